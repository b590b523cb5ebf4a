/- pretty's UglyInPlace makes what Ugly makes and SpecInPlace what Spec makes; Ugly used twice changes nothing more and keeps a first byte above the blank: every text of at most 2^12 bytes (the statement's own guards). -/
import Derived.Test.YtklllibhgalnfabRows
import Derived.Test.YtklllibhgalnfabGvS
import Derived.Test.YtklllibhgalnfabPureFnPrInPlaceAny
import Derived.Test.YtklllibhgalnfabGvL
import Derived.Laws.MakeOwn
import Derived.Lib.BufferRead
import Derived.WalkKit
import Derived.WalkSpells
import Derived.WalkLawsBesides
import Derived.Deep.RegionWith
import Derived.Deep.QuietTactic
import Derived.BigQuiet
import Derived.ProofKit
import Derived.OpenShut
import Derived.ShutString
import Derived.ChangeOld
import Derived.Below
import Derived.SizedLaws
import Derived.Outline
namespace Go.Proofs.Ytklllibhgalnfab.fnPrInPlaceAny
open Go.ChangeShapes Go.WideShapes Go.ChangeAt Go.RowKit
open Go.ChangeMaps (open_string shut_string)
open Go.Proofs.Ytklllibhgalnfab.G Go.Proofs.YtklllibhgalnfabW.PrintWords
set_option linter.unusedVariables false
set_option linter.unusedSimpArgs false

theorem out_string {w : World} {A : Option Addr} {c : Nat} {xs : List Int} (h : OutAt w A c xs) : (convert 24 9 (.slice A xs.length c)).run Try.prog w = .ok (.string (strOfNums xs)) w := by
  rcases h with ⟨rfl, rfl, rfl⟩ | ⟨g, rfl, _, _, hcell, _⟩
  · have := Lib.run_convert_nil_bytes (P := Try.prog) w 24 9 5 0 Try.underlying24 Try.underlying5 Try.underlying9
    exact this
  · refine run_convert_bytes_arg w 24 5 Try.underlying24 Try.underlying5 g 0 xs.length c xs rfl (fun i hi => ?_) 9 Try.underlying9
    rw [Nat.zero_add]
    exact hcell i hi
/-- A new row with room for n. -/
def roomW (w : World) (n : Nat) : World := w.alloc (.cells (madeCells (Value.int .u8 0).cells n) 5)
theorem run_room (w : World) (n : Nat) (h : n ≤ 140737488351232) : (Instr.makeSlice 24 (.int .i64 0) (.int .i64 n)).run Try.prog w = .ok (.slice (some ⟨w.heap.size, 0, none⟩) 0 n) (roomW w n) := by
  obtain ⟨i, hi, hz⟩ := Option.map_eq_some_iff.1 info5
  simp only [Prod.mk.injEq] at hz
  have := run_make (P := Try.prog) w 24 5 i (.int .u8 0) Try.underlying24 hi hz.1 .i64 .i64 0 n (Int.le_refl _) (by omega) (by rw [hz.2.2]; omega) (by omega)
  rw [this, hz.2.1]
  simp [roomW]
theorem room_below (w : World) (n : Nat) : Below w.heap.size w (roomW w n) := (Below.refl _ _).alloc (Nat.le_refl _) _
theorem room_out (w : World) (n : Nat) : OutAt (roomW w n) (some ⟨w.heap.size, 0, none⟩) n [] := by
  have hnew : (roomW w n).heap[w.heap.size]? = some (.cells (madeCells (Value.int .u8 0).cells n) 5) := heap_alloc_new w _
  refine .inr ⟨w.heap.size, rfl, by simp [roomW, World.size_alloc], by simp, fun j hj => by simp at hj, fun j hj => ⟨?_, ?_⟩⟩
  · have hs : (madeCells (Value.int .u8 0).cells n).size = n := size_madeCells _ _
    simp only [World.cell?, hnew]
    simp [hs, hj]
  · simp only [World.frozen?, hnew]
    simp
/-- The text's row. -/
def Row (w : World) (h : Nat) (src : List Int) : Prop := h < w.heap.size ∧ SrcAt w h src 0
theorem Row.below {w w' : World} {h : Nat} {src : List Int} (H : Row w h src) (hb : Below w.heap.size w w') : Row w' h src :=
  ⟨Nat.lt_of_lt_of_le H.1 hb.size, fun j h1 h2 => by rw [hb.cell (p := ⟨h, j, none⟩) H.1]; exact H.2 j h1 h2⟩
theorem Row.duo {w : World} {h c : Nat} {A : Option Addr} {src : List Int} (H : Row w h src) (ho : OutAt w A c []) (ha : ∀ a, A = some a → h < a.block) : Duo w h A c [] src 0 :=
  ⟨ho, H.2, H.1, by simp, .inl ha⟩
/-- The text's row written anew: the row that a conversion lays. -/
def Own (w : World) (h c : Nat) (src : List Int) : Prop := Row w h src ∧ src.length ≤ c ∧ ∀ j, j < c → (w.cell? ⟨h, j, none⟩).isSome = true ∧ w.frozen? ⟨h, j, none⟩ = false
theorem Own.duo {w : World} {h c : Nat} {src : List Int} (H : Own w h c src) : Duo w h (some ⟨h, 0, none⟩) c [] src 0 :=
  ⟨.inr ⟨h, rfl, H.1.1, by simp, fun j hj => by simp at hj, H.2.2⟩, H.1.2, H.1.1, by simp, .inr ⟨rfl, H.2.1⟩⟩
theorem conv_own (W : World) (s : ByteArray) : Own (Lib.bytesWorld W 5 s) W.heap.size (grownCap W s.size 0 5) (bytesOf s) := by
  obtain ⟨g, cap, e, h1, h2, h3, h4, h5⟩ := Buf.conv W 5 s W.heap.size (Nat.le_refl _)
  injection e with e1 e2 e3
  injection e1 with e1
  injection e1 with e1
  subst e1 e3
  refine ⟨⟨h2, fun j _ hj => ?_⟩, h3, h5⟩
  exact h4 j _ (by simp [List.getD_eq_getElem?_getD, List.getElem?_eq_getElem hj])

set_option maxRecDepth 100000 in
theorem Ugly_calls (src : List Int) (h cs n : Nat) (w : World) (H : Row w h src) (hn : src.length = n) (hm : n ≤ 140737488351232) :
    Calls Try.prog 8 #[.slice (some ⟨h, 0, none⟩) n cs] w (Made (uglyF false [] src) h w) := by
  subst hn
  have HR := Aside0.mk H
  clear H
  have hmk := fun w => run_room w src.length hm
  go_enter Try.func8, Try.ntmps8
  go_wp2_with (go_at_call 12; refine (ugly_walk src _ h cs 0 src.length (some ⟨w.heap.size, 0, none⟩) (roomW w src.length) ((HR.out.below (room_below _ _)).duo (room_out _ _) (fun a ha => by injection ha with ha; subst ha; exact HR.out.1)) rfl hm (Nat.zero_le _)).mono ?_; rintro e w1 ⟨A, c, rfl, ho, hb⟩)
  go_ret
  unfold Made
  exact ⟨A, c, rfl, ho, ((room_below w src.length).mono (Nat.le_of_lt HR.out.1)).trans hb⟩
set_option maxRecDepth 100000 in
theorem UglyIn_calls (src : List Int) (h cs n : Nat) (w : World) (H : Own w h cs src) (hn : src.length = n) (hm : n ≤ 140737488351232) :
    Calls Try.prog 9 #[.slice (some ⟨h, 0, none⟩) n cs] w (Made (uglyF false [] src) h w) := by
  subst hn
  have HR := Aside0.mk H
  clear H
  go_enter Try.func9, Try.ntmps9
  go_wp2_with (go_at_call 12; refine (ugly_walk src _ h cs src.length cs (some ⟨h, 0, none⟩) w HR.out.duo rfl hm HR.out.2.1).mono ?_; rintro e w1 ⟨A, c, rfl, ho, hb⟩)
  go_ret
  unfold Made
  exact ⟨A, c, rfl, ho, hb⟩
set_option maxRecDepth 100000 in
theorem SpecIn_calls (src : List Int) (h cs n : Nat) (w : World) (H : Own w h cs src) (hn : src.length = n) (hm : n ≤ 140737488351232) :
    Calls Try.prog 10 #[.slice (some ⟨h, 0, none⟩) n cs] w (Made (specF 0 [] src) h w) := by
  subst hn
  have HR := Aside0.mk H
  clear H
  go_enter Try.func10, Try.ntmps10
  go_wp2_with (go_at_call 13; refine (spec_walk src _ h cs src.length cs (some ⟨h, 0, none⟩) w HR.out.duo rfl hm HR.out.2.1).mono ?_; rintro e w1 ⟨A, c, rfl, ho, hb⟩)
  go_ret
  unfold Made
  exact ⟨A, c, rfl, ho, hb⟩
set_option maxRecDepth 100000 in
theorem Spec_calls (src : List Int) (h cs n : Nat) (w : World) (H : Row w h src) (hn : src.length = n) (hm : n ≤ 140737488351232) :
    Calls Try.prog 11 #[.slice (some ⟨h, 0, none⟩) n cs] w (Made (specF 0 [] src) h w) := by
  subst hn
  have HR := Aside0.mk H
  clear H
  go_enter Try.func11, Try.ntmps11
  go_wp2_with (go_at_call 13; refine (spec_walk src _ h cs 0 0 none w (HR.out.duo (.inl ⟨rfl, rfl, rfl⟩) (fun a ha => by cases ha)) rfl hm (Nat.le_refl _)).mono ?_; rintro e w1 ⟨A, c, rfl, ho, hb⟩)
  go_ret
  unfold Made
  exact ⟨A, c, rfl, ho, hb⟩
/-- It answers the text t; old memory stays. -/
def Says (t : ByteArray) (w : World) (e : Ending) (w' : World) : Prop := e = .returned (.string t) ∧ Below w.heap.size w w'
theorem conv_below (w : World) (s : ByteArray) : Below w.heap.size w (Lib.bytesWorld w 5 s) := bytes_below (Below.refl _ _) (Nat.le_refl _) 5 s

set_option maxRecDepth 100000 in
theorem PrUgly_calls (s : ByteArray) (w : World) (hm : s.size ≤ 140737488351232) : Calls Try.prog 4 #[.string s] w (Says (uglyS s) w) := by
  have kb := fun W => print_bytes (P := Try.prog) 9 24 5 Try.underlying9 Try.underlying24 Try.underlying5 s W
  go_enter Try.func4, Try.ntmps4
  go_wp2_with (go_at_call 8; refine (Ugly_calls (bytesOf s) w.heap.size (grownCap w s.size 0 5) s.size (Lib.bytesWorld w 5 s) (conv_own w s).1 (bytesOf_length s) hm).mono ?_; rintro e w1 ⟨A, c, rfl, ho, hb⟩; have hcv := out_string ho)
  go_ret
  unfold Says
  exact ⟨rfl, (conv_below w s).trans hb⟩
set_option maxRecDepth 100000 in
theorem PrUglyIn_calls (s : ByteArray) (w : World) (hm : s.size ≤ 140737488351232) : Calls Try.prog 5 #[.string s] w (Says (uglyS s) w) := by
  have kb := fun W => print_bytes (P := Try.prog) 9 24 5 Try.underlying9 Try.underlying24 Try.underlying5 s W
  go_enter Try.func5, Try.ntmps5
  go_wp2_with (go_at_call 9; refine (UglyIn_calls (bytesOf s) w.heap.size (grownCap w s.size 0 5) s.size (Lib.bytesWorld w 5 s) (conv_own w s) (bytesOf_length s) hm).mono ?_; rintro e w1 ⟨A, c, rfl, ho, hb⟩; have hcv := out_string ho)
  go_ret
  unfold Says
  exact ⟨rfl, (conv_below w s).trans hb⟩
set_option maxRecDepth 100000 in
theorem PrSpecIn_calls (s : ByteArray) (w : World) (hm : s.size ≤ 140737488351232) : Calls Try.prog 6 #[.string s] w (Says (strOfNums (specF 0 [] (bytesOf s))) w) := by
  have kb := fun W => print_bytes (P := Try.prog) 9 24 5 Try.underlying9 Try.underlying24 Try.underlying5 s W
  go_enter Try.func6, Try.ntmps6
  go_wp2_with (go_at_call 10; refine (SpecIn_calls (bytesOf s) w.heap.size (grownCap w s.size 0 5) s.size (Lib.bytesWorld w 5 s) (conv_own w s) (bytesOf_length s) hm).mono ?_; rintro e w1 ⟨A, c, rfl, ho, hb⟩; have hcv := out_string ho)
  go_ret
  unfold Says
  exact ⟨rfl, (conv_below w s).trans hb⟩
set_option maxRecDepth 100000 in
theorem PrSpec_calls (s : ByteArray) (w : World) (hm : s.size ≤ 140737488351232) : Calls Try.prog 7 #[.string s] w (Says (strOfNums (specF 0 [] (bytesOf s))) w) := by
  have kb := fun W => print_bytes (P := Try.prog) 9 24 5 Try.underlying9 Try.underlying24 Try.underlying5 s W
  go_enter Try.func7, Try.ntmps7
  go_wp2_with (go_at_call 11; refine (Spec_calls (bytesOf s) w.heap.size (grownCap w s.size 0 5) s.size (Lib.bytesWorld w 5 s) (conv_own w s).1 (bytesOf_length s) hm).mono ?_; rintro e w1 ⟨A, c, rfl, ho, hb⟩; have hcv := out_string ho)
  go_ret
  unfold Says
  exact ⟨rfl, (conv_below w s).trans hb⟩

set_option maxHeartbeats 4000000 in
set_option maxRecDepth 100000 in
theorem walk_in (s : ByteArray) (w : World) (hs : s.size ≤ 4096) :
    Calls Try.prog 3 #[.string s] w fun e w' => e = .returned (.bool true) ∧ Below w.heap.size w w' := by
  obtain ⟨u, hu⟩ : ∃ u, u = uglyS s := ⟨_, rfl⟩
  obtain ⟨v, hv⟩ : ∃ v, v = strOfNums (specF 0 [] (bytesOf s)) := ⟨_, rfl⟩
  have C4 := Aside0.mk (fun w => PrUgly_calls s w (by omega))
  have C5 := Aside0.mk (fun w => PrUglyIn_calls s w (by omega))
  have C6 := Aside0.mk (fun w => PrSpecIn_calls s w (by omega))
  have C7 := Aside0.mk (fun w => PrSpec_calls s w (by omega))
  have C8 : Aside0 (∀ w, Calls Try.prog 4 #[.string u] w (Says u w)) := ⟨fun w => by
    have h1 := PrUgly_calls u w (by have := uglyS_size s; rw [← hu] at this; omega)
    rw [hu, uglyS_again, ← hu] at h1; exact h1⟩
  rw [← hu] at C4 C5
  rw [← hv] at C6 C7
  have HF : Aside0 (∀ h0 : 0 < s.size, (32 : Int) < (s[0].toNat : Int) → ∃ h1 : 0 < u.size, u[0] = s[0]) := ⟨fun h0 h1 => by rw [hu]; exact uglyS_first s h0 h1⟩
  clear hu hv
  by_cases h0 : s.size = 0
  · have he : s.toList.isEmpty = true := by rw [toList_data, List.isEmpty_iff]; exact List.eq_nil_of_length_eq_zero (by simpa using h0)
    go_enter Try.func3, Try.ntmps3
    go_wp2_with (first | (go_at_call 4; refine (C4.out _).mono ?_; rintro e w1 ⟨rfl, hb1⟩) | (go_at_call 4; refine (C8.out _).mono ?_; rintro e w5 ⟨rfl, hb5⟩) | (go_at_call 5; refine (C5.out _).mono ?_; rintro e w2 ⟨rfl, hb2⟩) | (go_at_call 6; refine (C6.out _).mono ?_; rintro e w3 ⟨rfl, hb3⟩) | (go_at_call 7; refine (C7.out _).mono ?_; rintro e w4 ⟨rfl, hb4⟩))
    go_quiet (fail)
    go_wp2
    go_ret
    exact ⟨rfl, below_drewN (below_step (below_step (below_step (below_step hb1 hb2) hb3) hb4) hb5) _⟩
  · have hp : 0 < s.size := by omega
    have he : s.toList.isEmpty = false := by rw [toList_data]; exact List.isEmpty_eq_false_iff.2 (fun h => by have := size_data s; rw [h] at this; simp at this; omega)
    by_cases h1 : (s[0].toNat : Int) ≤ 32
    · go_enter Try.func3, Try.ntmps3
      go_wp2_with (first | (go_at_call 4; refine (C4.out _).mono ?_; rintro e w1 ⟨rfl, hb1⟩) | (go_at_call 4; refine (C8.out _).mono ?_; rintro e w5 ⟨rfl, hb5⟩) | (go_at_call 5; refine (C5.out _).mono ?_; rintro e w2 ⟨rfl, hb2⟩) | (go_at_call 6; refine (C6.out _).mono ?_; rintro e w3 ⟨rfl, hb3⟩) | (go_at_call 7; refine (C7.out _).mono ?_; rintro e w4 ⟨rfl, hb4⟩))
      go_quiet (fail)
      go_wp2
      go_ret
      exact ⟨rfl, below_drewN (below_step (below_step (below_step (below_step hb1 hb2) hb3) hb4) hb5) _⟩
    · obtain ⟨hu0, hue⟩ := HF.out hp (by omega)
      have he2 : u.toList.isEmpty = false := by rw [toList_data]; exact List.isEmpty_eq_false_iff.2 (fun h => by have := size_data u; rw [h] at this; simp at this; omega)
      have hb : ((u[0].toNat : Int) == (s[0].toNat : Int)) = true := by rw [hue]; exact beq_self_eq_true _
      have hd : decide ((s[0].toNat : Int) ≤ 32) = false := by simpa using h1
      have hd2 : (32 : Int) < (s[0].toNat : Int) := by omega
      clear hue h1
      go_enter Try.func3, Try.ntmps3
      go_wp2_with (first | (go_at_call 4; refine (C4.out _).mono ?_; rintro e w1 ⟨rfl, hb1⟩) | (go_at_call 4; refine (C8.out _).mono ?_; rintro e w5 ⟨rfl, hb5⟩) | (go_at_call 5; refine (C5.out _).mono ?_; rintro e w2 ⟨rfl, hb2⟩) | (go_at_call 6; refine (C6.out _).mono ?_; rintro e w3 ⟨rfl, hb3⟩) | (go_at_call 7; refine (C7.out _).mono ?_; rintro e w4 ⟨rfl, hb4⟩))
      go_quiet (fail)
      go_wp2
      go_ret
      exact ⟨rfl, below_drewN (below_step (below_step (below_step (below_step hb1 hb2) hb3) hb4) hb5) _⟩
set_option maxHeartbeats 4000000 in
set_option maxRecDepth 100000 in
theorem walk (s : ByteArray) (w : World) (hs : s.size ≤ 140737488351232) :
    Calls Try.prog 3 #[.string s] w fun e w' => e = .returned (.bool true) ∧ Below w.heap.size w w' := by
  by_cases hg : s.size ≤ 4096
  · exact walk_in s w hg
  · go_enter Try.func3, Try.ntmps3
    go_wp2
    all_goals first
      | (go_ret; exact ⟨rfl, Below.refl _ _⟩)
      | (exfalso; omega)

theorem own : ownKnob Try.prog.godebug = none := by kernel_rfl
set_option maxRecDepth 100000 in
theorem lifted (os : Os) (started : os.Started) (H : Type) (enc : TypeId × Value → H) :
    ReturnsInHanded {} Try.checked os 3 .any (Rows.fnPrInPlaceAnySpec.pre6 enc Try.prog Try.f3 Rows.fnPrInPlaceAnyRow.domain false) (Rows.fnPrInPlaceAnySpec.post enc Try.prog Try.f3 false true false false) := by
  refine returnsInHanded_of_change_sized (C := Try.checked) own started (by kernel_rfl) Try.func3
    (ChangeSpec.witness6 (enc := enc) (C := Try.checked) false ⟨#[], #[.string ByteArray.empty], []⟩ 8 (by kernel_rfl) (by kernel_rfl) (by kernel_rfl) (by kernel_rfl)) ?_
  intro W base args ds gs before hval0 hW hcnd hsz0 _
  have hsz : (DataW.weightsEach Try.prog (Try.f3.params.toList ++ Rows.fnPrInPlaceAnySpec.plain.varTypes Try.prog) (ds ++ gs)).all (· ≤ reachBytes) = true := hsz0
  have hval : ∀ (j : Nat) t v, Try.f3.params[j]? = some t → args[j]? = some v → Value.okWide Try.prog W .any base t v := hval0
  have hW' := hW
  obtain ⟨p, q, hA0, hV, rfl, hfz, hnd⟩ := hW
  have hA : DataW.TrodAll enc Try.prog W 0 (fun _ => true) true Try.f3.params.toList args.toList ds p := hA0
  rw [Try.params3] at hA hval hsz
  obtain ⟨v0, vs0, d0, ds0, p0, q0, hargs, rfl, rfl, h0, r0⟩ := trodAll_cons hA
  obtain ⟨rfl, rfl, rfl⟩ := trodAll_nil r0
  obtain rfl : args = #[v0] := by cases args; simp_all
  obtain ⟨rfl, rfl⟩ := trodVars_none hV
  obtain ⟨a0, rfl, rfl, rfl, y0⟩ := open_string Try.underlying9 (hval 0 9 v0 rfl rfl) h0
  have w0 : a0.size ≤ 140737488351232 := by
    have z := sized_string hsz (j := 0) (t := 9) rfl rfl
    rw [Array.length_toList] at z
    exact z
  clear hA0 hval0 hsz0 hsz
  refine (walk a0 W w0).mono fun e W' ⟨he, bel⟩ => ?_
  subst he
  exact ⟨_, rfl, _, _, _, [], _, [], hW', trodAll_mk1 (shut_bool Try.underlying4 _), (trodAll_cons_mk (shut_string Try.underlying9 y0) trodAll_mk0), rfl, bel.frame _, fun h => by cases h⟩
theorem over : Rows.fnPrInPlaceAnyRow.holds Try.pinned (OpenSpec.ofChange Rows.fnPrInPlaceAnySpec) :=
  OpenClaim.holds_of_wide 3 Try.f3 rfl rfl rfl rfl rfl rfl rfl ⟨rfl, rfl, rfl, rfl, rfl⟩ rfl rfl rfl rfl rfl (by kernel_rfl) Try.func3 (by kernel_rfl)
    (of_decide_eq_true (by kernel_rfl)) (by unfold Func.isWrapper; first | (rw [if_pos (by decide +kernel)]; kernel_rfl) | (rw [if_neg (by decide +kernel)]; exact ⟨rfl, rfl⟩))
    (fun os started H enc _ => lifted os started H enc)
theorem proved : Rows.FnPrInPlaceAnySaid := over
#print axioms proved
end Go.Proofs.Ytklllibhgalnfab.fnPrInPlaceAny
namespace Go.Proofs.Ytklllibhgalnfab
/-- The row, under a short name, for the claim. -/
theorem fnPrInPlaceAny_holds : Rows.FnPrInPlaceAnySaid := fnPrInPlaceAny.proved
end Go.Proofs.Ytklllibhgalnfab
