/- jsonparser's Get without keys gives the one value of a JSON text: every text that the statement lets in (at most 2^16 bytes, a JSON text). -/
import Derived.Test.YtpahejmkidhhhaaDoorRows
import Derived.Test.YtpahejmkidhhhaaDoorCards
import Derived.Test.YtpahejmkidhhhaaDoorTie
import Derived.Test.YtpahejmkidhhhaaDoorGvR
import Derived.ProofKit
import Derived.OpenShut
import Derived.ShutString
import Derived.ChangeOld
import Derived.Below
import Derived.SizedLaws
import Derived.LaidMore
import Derived.Deep.Strs
import Derived.Stop.LaidErr
import Derived.Stop.Joined
import Derived.SevenTiedAt
import Derived.Outline
namespace Go.Proofs.YtpahejmkidhhhaaDoor.fnJpGetWhole
open Go.ChangeShapes Go.WideShapes Go.ChangeAt Go.RowKit
open Go.ChangeMaps (open_string shut_string)
open Go.Proofs.YtpahejmkidhhhaaDoor.G Go.Proofs.YtpahejmkidhhhaaDoorW.PrintWords
set_option linter.unusedVariables false
set_option linter.unusedSimpArgs false

theorem old_block {w1 w2 : World} {cs : Array Value} {e : TypeId} (hb : Below (w1.alloc (.cells cs e)).heap.size (w1.alloc (.cells cs e)) w2) (o : Obj) : (w2.alloc o).heap[w1.heap.size]? = some (.cells cs e) := by
  have hs : (w1.alloc (.cells cs e)).heap.size = w1.heap.size + 1 := World.size_alloc _ _
  have h2 := hb.size
  rw [Below.heap_alloc _ _ _ (by omega), hb.block _ (by omega)]
  exact heap_alloc_new w1 _
theorem plc_some {kd b e : Nat} {ns : List (Nat × Nat)} {ks : List Pl} {w w' : World} {en : Ending} (h : PlcA (some (.mk kd b e ns ks)) w en w') : ∃ (na : Option Addr) (nn nc : Nat) (ka : Option Addr) (kn kc : Nat),
    en = .returned (.tuple #[.agg #[.int .i64 (kd : Int), .int .i64 (b : Int), .int .i64 (e : Int), .slice na nn nc, .slice ka kn kc], .bool true]) ∧ Below w.heap.size w w' ∧ Aside0 (PlAt w' (From w.heap.size) (.mk kd b e ns ks) [.int .i64 (kd : Int), .int .i64 (b : Int), .int .i64 (e : Int), .slice na nn nc, .slice ka kn kc]) := by
  obtain ⟨k, b', z, na, nn, nc, ka, kn, kc, ok, rfl, hb, hA⟩ := h
  obtain ⟨rfl, hP⟩ := hA.out
  have hP2 := hP
  unfold PlAt at hP
  obtain ⟨nv, kv, xs, hcs, _⟩ := hP
  simp only [List.cons.injEq, Value.int.injEq, true_and] at hcs
  obtain ⟨rfl, rfl, rfl, _⟩ := hcs
  exact ⟨na, nn, nc, ka, kn, kc, rfl, hb, ⟨hP2⟩⟩
set_option maxHeartbeats 4000000 in
set_option maxRecDepth 100000 in
theorem walk (E : Nat → Value) (s : ByteArray) (w : World) (hG : GL E w) (hs : s.size ≤ 140737488351232) :
    Calls Tryd.prog 4 #[.string s] w fun e w' => e = .returned (.bool true) ∧ Below w.heap.size w w' := by
  rcases Decidable.em (2147483647 < s.size) with hg | hg
  · go_enter Tryd.func4, Tryd.ntmps4
    go_wp2
    go_ret
    exact ⟨rfl, Below.refl _ _⟩
  · have hs2 : s.size ≤ 2147483647 := by omega
    have CP := jpPlaces_calls s w hs2
    cases hJ : jpo s with
    | none =>
      rw [hJ] at CP
      have CP := Aside0.mk CP
      clear hJ
      go_enter Tryd.func4, Tryd.ntmps4
      go_wp2_with (go_at_call 14; refine CP.out.mono ?_; rintro e w1 ⟨k, b, z, na, nn, nc, ka, kn, kc, ok, rfl, hb, hA⟩; obtain rfl : ok = false := hA.out; clear hA)
      go_ret
      exact ⟨rfl, hb.alloc (by have := hb.size; omega) _⟩
    | some p =>
      have hJ2 : J (bytesOf s) = some p := by
        unfold jpo at hJ
        split at hJ
        · cases hJ
        · exact hJ
      obtain ⟨kd, b0, e0, ns, ks, rfl, k6, hbe, hes, h4, i1, i2, i3, i4⟩ := J_ig hJ2
      rw [hJ] at CP
      have CP := Aside0.mk CP
      have CG := fun W (hW : GL E W) => jpGet_calls E (ig (bytesOf s) 0) s (.slice none 0 0) W hW hs (by have := ig_bound (bytesOf s); rw [bytesOf_length] at this; exact ⟨this.1, this.2.1⟩) (ig_bound (bytesOf s)).2.2 (fun W2 h c hb hE hr hc => iget0_calls E h 0 s.size c none 0 (bytesOf s) W2 hE.er hr (bytes_ok s) (bytesOf_length s) hs hc)
      unfold JGA at CG
      rw [i1, i4, if_pos rfl, if_pos rfl, i2, i3, decide_eq_true rfl] at CG
      have CG := Aside0.mk CG
      have HG := Aside0.mk hG
      have CT := Aside0.mk (fun W (na : Option Addr) (nn nc : Nat) (ka : Option Addr) (kn kc : Nat) => told_calls s kd b0 e0 (.slice na nn nc) (.slice ka kn kc) ⟨#[]⟩ W hs k6 hbe hes h4 ⟨na, nn, nc, rfl⟩ ⟨ka, kn, kc, rfl⟩)
      clear hJ hJ2 i1 i2 i3 i4 hG
      go_enter Tryd.func4, Tryd.ntmps4
      go_wp2_with (first
        | (go_at_call 13; refine (CT.out _ _ _ _ _ _ _).mono ?_; rintro e w3 ⟨rfl, hb3⟩)
        | (go_at_call 11; refine (CG.out _ ((HG.out.below hb).below (below_alloc1 _))).mono ?_; rintro e w2 ⟨rfl, hb2⟩; have hp := old_block (cs := #[.int .i64 (kd : Int), .int .i64 (b0 : Int), .int .i64 (e0 : Int), .slice na nn nc, .slice ka kn kc]) hb2 (.cells #[.string ⟨#[]⟩, .string (rawS s kd b0 e0), .int .i64 (jk kd), .int .i64 (e0 : Int)] 31); have c0 := blk_cell (j := 0) hp rfl; have c1 := blk_cell (j := 1) hp rfl; have c2 := blk_cell (j := 2) hp rfl; have c3 := blk_cell (j := 3) hp rfl; have c4 := blk_cell (j := 4) hp rfl; clear hp)
        | (go_at_call 14; refine CP.out.mono ?_; intro e w1 hp; obtain ⟨na, nn, nc, ka, kn, kc, rfl, hb, hP⟩ := plc_some hp; clear hp))
      go_ret
      have B1 := hb.alloc hb.size (.cells #[.int .i64 (kd : Int), .int .i64 (b0 : Int), .int .i64 (e0 : Int), .slice na nn nc, .slice ka kn kc] 27)
      have B2 := below_step B1 hb2
      exact ⟨rfl, below_step (B2.alloc B2.size _) hb3⟩
/-! ### the row and the card -/
theorem g0 : Tryd.prog.globalNamed "pub-tetrapla/pub/jsonparser.KeyPathNotFoundError" = some 0 := by kernel_rfl
theorem t0 : (Tryd.prog.globals[0]?).map (·.type) = some 57 := by kernel_rfl
theorem g1 : Tryd.prog.globalNamed "pub-tetrapla/pub/jsonparser.UnknownValueTypeError" = some 1 := by kernel_rfl
theorem t1 : (Tryd.prog.globals[1]?).map (·.type) = some 57 := by kernel_rfl
theorem g2 : Tryd.prog.globalNamed "pub-tetrapla/pub/jsonparser.MalformedJsonError" = some 2 := by kernel_rfl
theorem t2 : (Tryd.prog.globals[2]?).map (·.type) = some 57 := by kernel_rfl
theorem g3 : Tryd.prog.globalNamed "pub-tetrapla/pub/jsonparser.MalformedStringError" = some 3 := by kernel_rfl
theorem t3 : (Tryd.prog.globals[3]?).map (·.type) = some 57 := by kernel_rfl
theorem g4 : Tryd.prog.globalNamed "pub-tetrapla/pub/jsonparser.MalformedArrayError" = some 4 := by kernel_rfl
theorem t4 : (Tryd.prog.globals[4]?).map (·.type) = some 57 := by kernel_rfl
theorem g5 : Tryd.prog.globalNamed "pub-tetrapla/pub/jsonparser.MalformedObjectError" = some 5 := by kernel_rfl
theorem t5 : (Tryd.prog.globals[5]?).map (·.type) = some 57 := by kernel_rfl
theorem g10 : Tryd.prog.globalNamed "pub-tetrapla/pub/jsonparser.DefaultConfig" = some 10 := by kernel_rfl
theorem t10 : (Tryd.prog.globals[10]?).map (·.type) = some 90 := by kernel_rfl
theorem star : "*" ++ "errors.errorString" = "*errors.errorString" := by decide
theorem row158 (u : TypeId) (h : Tryd.prog.typeName? 3 u = some "*errors.errorString") : u = 158 :=
  typeName_ptr_named (nm := "errors.errorString") (by rw [star]; kernel_rfl) (by kernel_rfl) (by decide) u (by rw [star]; exact h)
theorem cells160 : Tryd.prog.cellsOf 160 = 1 := by kernel_rfl
theorem cells9 : Tryd.prog.cellsOf 9 = 1 := by kernel_rfl
theorem cells90 : Tryd.prog.cellsOf 90 = 3 := by kernel_rfl
theorem cells4 : Tryd.prog.cellsOf 4 = 1 := by kernel_rfl
theorem cells3 : Tryd.prog.cellsOf 3 = 1 := by kernel_rfl
theorem cfg_of {W : World} {r : List (String × DataW Unit)} (h : laidMet Tryd.prog (("pub-tetrapla/pub/jsonparser.DefaultConfig", Rows.laid_pub_tetrapla_pub_jsonparser_DefaultConfig) :: r) W) : CfgAt W 10 := by
  obtain ⟨ps, ⟨g0, t0, cs0, f0, p0, q0, hg0, ht0, hv0, hd0, _, e0⟩, _, _⟩ := h
  obtain rfl := Option.some.inj (g10.symm.trans hg0)
  obtain rfl := Option.some.inj (t10.symm.trans ht0)
  obtain ⟨l0⟩ := cs0
  obtain ⟨y0, y1, y2, n, hx, hl, h0, h1, h2⟩ := Go.Deep.trod_struct3 Tryd.underlying90 hd0
  rw [cells90] at hl
  obtain ⟨v0, v1, v2, rfl⟩ : ∃ v0 v1 v2, l0 = [v0, v1, v2] := by
    have hl' : l0.length = 3 := hl
    clear h0 h1 h2 hv0 hd0 hl
    match l0, hl' with
    | [v0, v1, v2], _ => exact ⟨v0, v1, v2, rfl⟩
  have c := fun i => World.var?_cell g10 hv0 i
  simp only [cells4, cells3] at h0 h1 h2
  obtain ⟨b0, e1, e2⟩ := DataW.trod_bool Tryd.underlying4 h0
  obtain ⟨b1, e3, e4⟩ := DataW.trod_bool Tryd.underlying4 h1
  obtain ⟨b2, e5, e6, _⟩ := DataW.trod_int Tryd.underlying3 h2
  clear h0 h1 h2 hd0 hv0
  simp at e1 e3 e5
  subst e1 e3 e5
  subst e2 e4 e6
  simp [Rows.laid_pub_tetrapla_pub_jsonparser_DefaultConfig] at hx
  obtain ⟨⟨rfl, rfl, rfl⟩, _⟩ := hx
  have c0 : W.cell? ⟨10, 0, none⟩ = some (.bool false) := by rw [c 0]; rfl
  exact ⟨World.block_lt_of_cell? W _ c0, c0, by rw [c 1]; rfl, by rw [c 2]; rfl⟩
theorem of_laid {W : World} (h : laidMetH Tryd.prog Rows.fnJpGetWholeRow.laid W) : ∃ E, GL E W := by
  rw [MakeChecks.laidMetH_plain _ _ _ (by kernel_rfl)] at h
  have hc := cfg_of h.tail.tail.tail.tail.tail
  obtain ⟨a0, s0, hv0, _⟩ := laid_sentinel h.tail.tail.tail.tail.tail.tail.tail g0 t0 Tryd.underlying57 row158 Tryd.underlying158 Tryd.underlying160 rfl rfl Tryd.underlying9 cells160 cells9
  obtain ⟨a1, s1, hv1, _⟩ := laid_sentinel h.tail.tail.tail.tail.tail.tail.tail.tail g1 t1 Tryd.underlying57 row158 Tryd.underlying158 Tryd.underlying160 rfl rfl Tryd.underlying9 cells160 cells9
  obtain ⟨a2, s2, hv2, _⟩ := laid_sentinel h.tail.tail.tail.tail.tail.tail.tail.tail.tail g2 t2 Tryd.underlying57 row158 Tryd.underlying158 Tryd.underlying160 rfl rfl Tryd.underlying9 cells160 cells9
  obtain ⟨a3, s3, hv3, _⟩ := laid_sentinel h.tail.tail.tail.tail.tail.tail.tail.tail.tail.tail g3 t3 Tryd.underlying57 row158 Tryd.underlying158 Tryd.underlying160 rfl rfl Tryd.underlying9 cells160 cells9
  obtain ⟨a4, s4, hv4, _⟩ := laid_sentinel h.tail.tail.tail.tail.tail.tail.tail.tail.tail.tail.tail g4 t4 Tryd.underlying57 row158 Tryd.underlying158 Tryd.underlying160 rfl rfl Tryd.underlying9 cells160 cells9
  obtain ⟨a5, s5, hv5, _⟩ := laid_sentinel h.tail.tail.tail.tail.tail.tail.tail.tail.tail.tail.tail.tail g5 t5 Tryd.underlying57 row158 Tryd.underlying158 Tryd.underlying160 rfl rfl Tryd.underlying9 cells160 cells9
  refine ⟨fun k => .iface 158 (.pointer (some (match k with | 0 => a0 | 1 => a1 | 2 => a2 | 3 => a3 | 4 => a4 | _ => a5))), ⟨hc.1, fun k hk => ?_, fun k hk => ⟨_, rfl⟩⟩, hc⟩
  have : k = 0 ∨ k = 1 ∨ k = 2 ∨ k = 3 ∨ k = 4 ∨ k = 5 := by omega
  rcases this with rfl | rfl | rfl | rfl | rfl | rfl
  · have := World.var?_cell g0 hv0 0; simpa using this
  · have := World.var?_cell g1 hv1 0; simpa using this
  · have := World.var?_cell g2 hv2 0; simpa using this
  · have := World.var?_cell g3 hv3 0; simpa using this
  · have := World.var?_cell g4 hv4 0; simpa using this
  · have := World.var?_cell g5 hv5 0; simpa using this
theorem own : ownKnob Tryd.prog.godebug = none := by kernel_rfl
theorem door_met (os : Os) (args : Array Value) : laidMetH Tryd.prog Rows.fnJpGetWholeRow.laid ((World.doorLaid Tryd.prog 400 os).forCall (fun _ _ => 0) ⟨#[], args, []⟩).memory := 
  laidMetH_of_parts3 (fuel := 8) (laidMet_of_run' 8 (by kernel_rfl) (by kernel_rfl)) (by kernel_rfl) (by kernel_rfl)
set_option maxRecDepth 100000 in
theorem lifted (os : Os) (started : os.Started) (H : Type) (enc : TypeId × Value → H) :
    ReturnsInHanded {} Tryd.checked os 4 .any (fun w args => (Rows.fnJpGetWholeSpec.pre enc Tryd.prog Tryd.f4 [] false w args ∧ laidMetH Tryd.prog Rows.fnJpGetWholeRow.laid w) ∧ sizedMet enc Tryd.prog Tryd.f4 (OpenSpec.ofChange Rows.fnJpGetWholeSpec) false w args)
      (Rows.fnJpGetWholeSpec.post enc Tryd.prog Tryd.f4 false true false false) := by
  refine returnsInHanded_of_change_and (C := Tryd.checked) (X := fun w _ => laidMetH Tryd.prog Rows.fnJpGetWholeRow.laid w) (fun _ _ _ hh h => h.of_heap hh) own started (by kernel_rfl) Tryd.func4
    (ChangeSpec.witness_shaped (enc := enc) (C := Tryd.checked) (os := os) (X := fun w _ => laidMetH Tryd.prog Rows.fnJpGetWholeRow.laid w) false (World.doorLaid Tryd.prog 400 os) #[.string ByteArray.empty] 8 rfl (World.shaped_of_RefB (by kernel_rfl) (by kernel_rfl)) (by kernel_rfl) (by kernel_rfl) (by kernel_rfl) (door_met os _)) ?_
  intro W base args ds gs before hval0 hW _ hsz0 hL _
  have hsz : (DataW.weightsEach Tryd.prog (Tryd.f4.params.toList ++ Rows.fnJpGetWholeSpec.plain.varTypes Tryd.prog) (ds ++ gs)).all (· ≤ reachBytes) = true := hsz0
  have hval : ∀ (j : Nat) t v, Tryd.f4.params[j]? = some t → args[j]? = some v → Value.okWide Tryd.prog W .any base t v := hval0
  have hW' := hW
  obtain ⟨p, q, hA0, hV, rfl, hfz, hnd⟩ := hW
  have hA : DataW.TrodAll enc Tryd.prog W 0 (fun _ => true) true Tryd.f4.params.toList args.toList ds p := hA0
  rw [Tryd.params4] at hA hval hsz
  obtain ⟨v0, vs0, d0, ds0, p0, q0, hargs, rfl, rfl, h0, r0⟩ := trodAll_cons hA
  obtain ⟨rfl, rfl, rfl⟩ := trodAll_nil r0
  obtain rfl : args = #[v0] := by cases args; simp_all
  obtain ⟨rfl, rfl⟩ := trodVars_none hV
  obtain ⟨a0, rfl, rfl, rfl, y0⟩ := open_string Tryd.underlying9 (hval 0 9 v0 rfl rfl) h0
  have w0 : a0.size ≤ 140737488351232 := by
    have z := sized_string hsz (j := 0) (t := 9) rfl rfl
    rw [Array.length_toList] at z
    exact z
  clear hA0 hval0 hsz0 hsz
  obtain ⟨E, HG⟩ := of_laid hL
  refine (walk E a0 W HG w0).mono fun e W' ⟨he, bel⟩ => ?_
  subst he
  exact ⟨_, rfl, _, _, _, [], _, [], hW', trodAll_mk1 (shut_bool Tryd.underlying4 _), (trodAll_cons_mk (shut_string Tryd.underlying9 y0) trodAll_mk0), rfl, bel.frame _, fun h => by cases h⟩
theorem row_holds : Rows.FnJpGetWholeSaid :=
  OpenClaim.holds_of_wide 4 Tryd.f4 rfl rfl rfl rfl rfl rfl rfl ⟨rfl, rfl, rfl, rfl, rfl⟩ rfl rfl rfl rfl rfl (by kernel_rfl) Tryd.func4 (by kernel_rfl)
    (of_decide_eq_true (by kernel_rfl)) (by unfold Func.isWrapper; first | (rw [if_pos (by decide +kernel)]; kernel_rfl) | (rw [if_neg (by decide +kernel)]; exact ⟨rfl, rfl⟩))
    (fun os started H enc _ => lifted os started H enc)
theorem proved : Rows.FnJpGetWholeCardSaid :=
  Claim7.holds_tied_plain_at .later [] [.data, .data, .data, .sentinel, .sentinel, .data, .data, .sentinel, .sentinel, .sentinel, .sentinel, .sentinel, .sentinel, .sentinel] true (true, "71a4b0aeaaeabdd81c85b1d8731e167f650fde7ada06ab2a14c6d53206feac3d") true
    row_holds (fun _ h => by cases h) (by kernel_rfl) (fun _ h => by cases h) fnJpGetWhole_row_tie rfl ⟨rfl, rfl⟩ (by kernel_rfl) rfl
    (fun f fn hf hfn => by
      obtain rfl : f = 4 := Option.some.inj ((show Tryd.prog.funcNamed "pub-tetrapla/laws.FnJpGetWhole" = some 4 by kernel_rfl).symm.trans hf) |>.symm
      obtain rfl : fn = Tryd.f4 := (Option.some.inj (Tryd.func4.symm.trans hfn)).symm
      exact ⟨by kernel_rfl, fun j t ht => by
        rw [Tryd.params4] at ht
        have hm : t ∈ [9] := by simpa using Array.mem_of_getElem? ht
        have hall : ([9].all fun u => !Tryd.prog.wantsStandIn u) = true := by kernel_rfl
        exact (show Tryd.prog.wantsStandIn t = false by simpa using List.all_eq_true.1 hall t hm)⟩)
    (by kernel_rfl)
#print axioms proved
end Go.Proofs.YtpahejmkidhhhaaDoor.fnJpGetWhole
namespace Go.Proofs.YtpahejmkidhhhaaDoor
/-- The card, under a short name, for the claim. -/
theorem fnJpGetWhole_holds : Rows.FnJpGetWholeCardSaid := fnJpGetWhole.proved
end Go.Proofs.YtpahejmkidhhhaaDoor
