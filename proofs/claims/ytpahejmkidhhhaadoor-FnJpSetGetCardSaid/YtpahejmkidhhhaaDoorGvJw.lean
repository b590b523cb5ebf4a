/- searchKeys: whole. The sizes of keys; the kind of an error. JrGet: the kind of Get's error. internalGet with any keys; FnJrGetTold's walk. -/
import Derived.Test.YtpahejmkidhhhaaDoorGvSx
import Derived.Test.YtpahejmkidhhhaaDoorGvTw
import Derived.LaidEql
import Derived.Test.YtpahejmkidhhhaaDoorGvK
section
namespace Go.Proofs.YtpahejmkidhhhaaDoor.G
set_option linter.unusedVariables false
set_option linter.unusedSimpArgs false
open Go.RowKit Go.Proofs.YtpahejmkidhhhaaDoorW.PrintWords

set_option maxHeartbeats 4000000 in
set_option maxRecDepth 1000000 in
theorem search_none (ka : Option Addr) (kc : Nat) (d : Value) (w : World) (h o n c : Nat) (hd : d = .slice (some ⟨h, o, none⟩) n c) : Calls Tryd.prog 67 #[.agg #[.bool false, .bool false, .int .i64 0], d, .slice ka 0 kc] w (SKA 0 w) := by
  subst hd
  go_enter Tryd.func67, Tryd.ntmps67
  go_wp2
  go_ret
  exact ⟨rfl, (below_alloc1 _).alloc (by rw [World.size_alloc]; omega) _⟩
/-- The search answers what it is said to. -/
theorem search_calls (E : Nat → Value) : ∀ (N : Nat) (K : List ByteArray), K.length ≤ N → ∀ (ka : Option Addr) (kc h o n c : Nat) (xs : List Int) (w : World), K.length ≤ 140737488351232 → (∀ s ∈ K, s.size ≤ 281474976710656) → K.length ≤ kc → KeysAt w ka K → SW w E → RowAt w h o xs → Bytes xs → xs.length = n → n ≤ 140737488351232 → n ≤ c →
    Calls Tryd.prog 67 #[.agg #[.bool false, .bool false, .int .i64 0], .slice (some ⟨h, o, none⟩) n c, .slice ka K.length kc] w (SKA (sks K xs) w)
  | _, [], _, ka, kc, h, o, n, c, xs, w, _, _, _, _, _, _, _, _, _, _ => search_none ka kc _ w h o n c rfl
  | 0, _ :: _, hN, _, _, _, _, _, _, _, _, _, _, _, _, _, _, _, _, _, _ => by simp at hN
  | N + 1, k :: K, hN, ka, kc, h, o, n, c, xs, w, hm, hs, hc, hka, hG, H, hby, hl, hn, hnc => by
    obtain ⟨a, ha, _⟩ := hka 0 (by simp)
    subst ha
    refine search_walk E (k :: K) a (k :: K).length kc h o n c xs w (fun K' ka' kc' h' o' n' c' ys W h1 h2 h3 h4 h5 h6 h7 h8 h9 h10 => search_calls E N K' (by simp only [List.length_cons] at hN h1; omega) ka' kc' h' o' n' c' ys W (by omega) h2 h3 h4 h5 h6 h7 h8 h9 h10) (by simp) rfl hm hs hc hka hG H hby hl hn hnc _ (sks_eq xs (by simp)).symm
end Go.Proofs.YtpahejmkidhhhaaDoor.G
end

section
namespace Go.Proofs.YtpahejmkidhhhaaDoor.G
set_option linter.unusedVariables false
set_option linter.unusedSimpArgs false
open Go.RowKit Go.Proofs.YtpahejmkidhhhaaDoorW.PrintWords

def FitA (K : List ByteArray) (w : World) (e : Ending) (w' : World) : Prop := ∃ b : Bool, e = .returned (.bool b) ∧ w' = w ∧ Aside0 (b = true → K.length ≤ 2147483647 ∧ ∀ s ∈ K, s.size ≤ 2147483647)
set_option maxHeartbeats 4000000 in
set_option maxRecDepth 100000 in
theorem fits1_calls (K : List ByteArray) (ka : Option Addr) (kn kc : Nat) (w : World) (hN : kn ≤ 9223372036854775807) (hl : K.length = kn) (h : KeysAt w ka K) : Calls Tryd.prog 9 #[.slice ka kn kc] w (FitA K w) := by
  have H := Aside0.mk h
  have HL := Aside0.mk hl
  clear h hl
  by_cases hbig : 2147483647 < kn
  · go_enter Tryd.func9, Tryd.ntmps9
    go_wp2_with fail
    go_ret
    exact ⟨false, rfl, rfl, ⟨fun h => by cases h⟩⟩
  · go_enter Tryd.func9, Tryd.ntmps9
    go_wp2_with fail
    go_loop [10] (fun i => ∃ k : Nat, i = .int .i64 k ∧ k ≤ kn ∧ Aside0 (∀ j, j < k → (K.getD j ByteArray.empty).size ≤ 2147483647)) (fun i => kn - (intOf i).toNat)
    case atStart => exact ⟨0, rfl, Nat.zero_le _, ⟨fun j hj => by omega⟩⟩
    case round =>
      obtain ⟨k, rfl, hk, HK⟩ := hrel
      by_cases hlt : k < kn
      · obtain ⟨a, rfl, hab, hc⟩ := H.out k (by rw [HL.out]; exact hlt)
        generalize hs : K.getD k ByteArray.empty = s at hc
        have HS := Aside0.mk hs
        clear hs
        by_cases hsb : 2147483647 < s.size
        · go_wp2
          go_ret
          exact ⟨false, rfl, rfl, ⟨fun h => by cases h⟩⟩
        · have HK2 : Aside0 (∀ j, j < k + 1 → (K.getD j ByteArray.empty).size ≤ 2147483647) := ⟨fun j hj => by
            by_cases e : j = k
            · rw [e, HS.out]; omega
            · exact HK.out j (by omega)⟩
          go_wp2
          go_round
          case rel => exact ⟨k + 1, by go_num, by omega, HK2⟩
          case measure => simp [intOf]; omega
      · obtain rfl : k = kn := by omega
        go_wp2
        go_ret
        exact ⟨true, rfl, rfl, ⟨fun _ => ⟨by rw [HL.out]; omega, fun s hs => by
          obtain ⟨i, hi, rfl⟩ := List.getElem_of_mem hs
          have := HK.out i (by rw [HL.out] at hi; exact hi)
          simpa [List.getD_eq_getElem?_getD, List.getElem?_eq_getElem hi] using this⟩⟩⟩
/-- Where the errors' texts lie. -/
structure ErP (w : World) (E : Nat → Value) : Prop where
  at' : ∀ k, k < 6 → ∃ a c t, E k = .iface 158 (.pointer (some a)) ∧ w.heap[a.block]? = some (.cells c t (0, 0))
theorem ErP.below {w w' : World} {E : Nat → Value} (H : ErP w E) (hb : Below w.heap.size w w') : ErP w' E :=
  ⟨fun k hk => by
    obtain ⟨a, c, t, h1, h2⟩ := H.at' k hk
    exact ⟨a, c, t, h1, (hb.block a.block (by have := Array.getElem?_eq_some_iff.1 h2; exact this.1)).trans h2⟩⟩
theorem info158 : (Tryd.prog.info? 158).map (fun i => i.comparable) = some true := by kernel_rfl
theorem info160 : (Tryd.prog.info? 160).map (fun i => i.size) = some 1 := by kernel_rfl
theorem eq_err {W : World} {a b : Addr} {ca cb : Array Value} {ta tb : TypeId} (ha : W.heap[a.block]? = some (.cells ca ta (0, 0))) (hb : W.heap[b.block]? = some (.cells cb tb (0, 0))) :
    (binOp .eql 57 (.iface 158 (.pointer (some a))) (.iface 158 (.pointer (some b)))).run Tryd.prog W = .ok (.bool (decide (a = b))) W := by
  obtain ⟨i, hi, hi2⟩ : ∃ i, Tryd.prog.info? 158 = some i ∧ i.comparable = true := by
    have := info158
    cases h : Tryd.prog.info? 158 with
    | none => rw [h] at this; cases this
    | some i => rw [h] at this; exact ⟨i, rfl, by simpa using this⟩
  obtain ⟨j, hj, hj2⟩ : ∃ j, Tryd.prog.info? 160 = some j ∧ j.size = 1 := by
    have := info160
    cases h : Tryd.prog.info? 160 with
    | none => rw [h] at this; cases this
    | some i => rw [h] at this; exact ⟨i, rfl, by simpa using this⟩
  by_cases h : a = b
  · subst h
    rw [decide_eq_true rfl]
    exact run_eql_iface_ptr_same W a Tryd.underlying57 Tryd.underlying158 hi hi2 hj
  · rw [decide_eq_false h]
    exact run_eql_iface_ptr_other W Tryd.underlying57 Tryd.underlying158 hi hi2 hj (by omega) h ha hb
/-- The kind of an error: 0 of none, 1 of the first one. -/
def KindA (k : Nat) (w : World) (e : Ending) (w' : World) : Prop := ∃ r : Int, e = .returned (.int .i64 r) ∧ w' = w ∧ Aside0 (0 ≤ r ∧ r ≤ 6 ∧ (k = 0 → r = 0) ∧ (k ≠ 0 → r ≠ 0) ∧ (k = 1 → r = 1))
set_option maxHeartbeats 4000000 in
set_option maxRecDepth 100000 in
theorem jrKind_calls (E : Nat → Value) (k : Nat) (hk : k ≤ 6) (w : World) (hE : ErrT w E) (hP : ErP w E) : Calls Tryd.prog 28 #[if k = 0 then .nilIface else E (k - 1)] w (KindA k w) := by
  have c0 := hE.cell 0 (by omega)
  have c1 := hE.cell 1 (by omega)
  have c2 := hE.cell 2 (by omega)
  have c3 := hE.cell 3 (by omega)
  have c4 := hE.cell 4 (by omega)
  have c5 := hE.cell 5 (by omega)
  obtain ⟨a0, x0, t0, h0, b0⟩ := hP.at' 0 (by omega)
  obtain ⟨a1, x1, t1, h1, b1⟩ := hP.at' 1 (by omega)
  obtain ⟨a2, x2, t2, h2, b2⟩ := hP.at' 2 (by omega)
  obtain ⟨a3, x3, t3, h3, b3⟩ := hP.at' 3 (by omega)
  obtain ⟨a4, x4, t4, h4, b4⟩ := hP.at' 4 (by omega)
  obtain ⟨a5, x5, t5, h5, b5⟩ := hP.at' 5 (by omega)
  rw [h0] at c0; rw [h1] at c1; rw [h2] at c2; rw [h3] at c3; rw [h4] at c4; rw [h5] at c5
  have : k = 0 ∨ k = 1 ∨ k = 2 ∨ k = 3 ∨ k = 4 ∨ k = 5 ∨ k = 6 := by omega
  rcases this with rfl | rfl | rfl | rfl | rfl | rfl | rfl
  · simp only [if_true]
    clear hE hP h0 h1 h2 h3 h4 h5 hk
    go_enter Tryd.func28, Tryd.ntmps28
    go_wp2
    go_ret
    exact ⟨_, rfl, rfl, ⟨by decide⟩⟩
  · show Calls Tryd.prog 28 #[E 0] w (KindA 1 w)
    rw [h0]
    have q0 := eq_err b0 b0
    rw [decide_eq_true rfl] at q0
    clear hE hP h0 h1 h2 h3 h4 h5 hk b0 b1 b2 b3 b4 b5
    go_enter Tryd.func28, Tryd.ntmps28
    go_wp2
    all_goals go_ret
    all_goals exact ⟨_, rfl, rfl, ⟨by decide⟩⟩
  · show Calls Tryd.prog 28 #[E 1] w (KindA 2 w)
    rw [h1]
    have q0 := eq_err b1 b0
    have q1 := eq_err b1 b1
    rw [decide_eq_true rfl] at q1
    clear hE hP h0 h1 h2 h3 h4 h5 hk b0 b1 b2 b3 b4 b5
    go_enter Tryd.func28, Tryd.ntmps28
    go_wp2
    all_goals go_ret
    all_goals exact ⟨_, rfl, rfl, ⟨by decide⟩⟩
  · show Calls Tryd.prog 28 #[E 2] w (KindA 3 w)
    rw [h2]
    have q0 := eq_err b2 b0
    have q1 := eq_err b2 b1
    have q2 := eq_err b2 b2
    rw [decide_eq_true rfl] at q2
    clear hE hP h0 h1 h2 h3 h4 h5 hk b0 b1 b2 b3 b4 b5
    go_enter Tryd.func28, Tryd.ntmps28
    go_wp2
    all_goals go_ret
    all_goals exact ⟨_, rfl, rfl, ⟨by decide⟩⟩
  · show Calls Tryd.prog 28 #[E 3] w (KindA 4 w)
    rw [h3]
    have q0 := eq_err b3 b0
    have q1 := eq_err b3 b1
    have q2 := eq_err b3 b2
    have q3 := eq_err b3 b3
    rw [decide_eq_true rfl] at q3
    clear hE hP h0 h1 h2 h3 h4 h5 hk b0 b1 b2 b3 b4 b5
    go_enter Tryd.func28, Tryd.ntmps28
    go_wp2
    all_goals go_ret
    all_goals exact ⟨_, rfl, rfl, ⟨by decide⟩⟩
  · show Calls Tryd.prog 28 #[E 4] w (KindA 5 w)
    rw [h4]
    have q0 := eq_err b4 b0
    have q1 := eq_err b4 b1
    have q2 := eq_err b4 b2
    have q3 := eq_err b4 b3
    have q4 := eq_err b4 b4
    rw [decide_eq_true rfl] at q4
    clear hE hP h0 h1 h2 h3 h4 h5 hk b0 b1 b2 b3 b4 b5
    go_enter Tryd.func28, Tryd.ntmps28
    go_wp2
    all_goals go_ret
    all_goals exact ⟨_, rfl, rfl, ⟨by decide⟩⟩
  · show Calls Tryd.prog 28 #[E 5] w (KindA 6 w)
    rw [h5]
    have q0 := eq_err b5 b0
    have q1 := eq_err b5 b1
    have q2 := eq_err b5 b2
    have q3 := eq_err b5 b3
    have q4 := eq_err b5 b4
    have q5 := eq_err b5 b5
    rw [decide_eq_true rfl] at q5
    clear hE hP h0 h1 h2 h3 h4 h5 hk b0 b1 b2 b3 b4 b5
    go_enter Tryd.func28, Tryd.ntmps28
    go_wp2
    all_goals go_ret
    all_goals exact ⟨_, rfl, rfl, ⟨by decide⟩⟩
end Go.Proofs.YtpahejmkidhhhaaDoor.G
end

section
namespace Go.Proofs.YtpahejmkidhhhaaDoor.G
set_option linter.unusedVariables false
set_option linter.unusedSimpArgs false
open Go.RowKit Go.Proofs.YtpahejmkidhhhaaDoorW.PrintWords

def JrA (k : Nat) (w : World) (e : Ending) (w' : World) : Prop := ∃ r : Int, e = .returned (.int .i64 r) ∧ Below w.heap.size w w' ∧ Aside0 (0 ≤ r ∧ r ≤ 6 ∧ (k = 0 → r = 0) ∧ (k ≠ 0 → r ≠ 0) ∧ (k = 1 → r = 1))
set_option maxHeartbeats 8000000 in
set_option maxRecDepth 100000 in
theorem jrGet_calls (E : Nat → Value) (g : Ig) (s : ByteArray) (k : Value) (w : World) (hG : GL E w) (hP : ErP w E) (hm : s.size ≤ 140737488351232) (hge : g.er ≤ 6)
    (hI : ∀ W h c, Below w.heap.size w W → GL E W → RowAt W h 0 (bytesOf s) → s.size ≤ c → Calls Tryd.prog 49 #[.agg #[.bool false, .bool false, .int .i64 0], .slice (some ⟨h, 0, none⟩) s.size c, k] W (IGA E g h 0 W)) :
    Calls Tryd.prog 15 #[.string s, k] w (JrA g.er w) := by
  have kb := fun W => print_bytes (P := Tryd.prog) 9 54 5 Tryd.underlying9 Tryd.underlying54 Tryd.underlying5 s W
  have hcb := conv_below w s
  have hrow := conv_row w s
  have hge2 : s.size ≤ grownCap w s.size 0 5 := Nat.le_trans (by omega) (grownCap_ge w s.size 0 5)
  have C := get_calls E g w.heap.size 0 (.slice (some ⟨w.heap.size, 0, none⟩) s.size (grownCap w s.size 0 5)) k (Lib.bytesWorld w 5 s) (hG.below hcb) (hI _ _ _ hcb (hG.below hcb) hrow hge2)
  unfold GetA at C
  unfold vEr at C
  have C := Aside0.mk C
  have CK := Aside0.mk (fun W (hb : Below (Lib.bytesWorld w 5 s).heap.size (Lib.bytesWorld w 5 s) W) => jrKind_calls E g.er hge W ((hG.er.below hcb).below hb) ((hP.below hcb).below hb))
  have HB := Aside0.mk hcb
  clear hcb hrow hge2 hI hG hP
  obtain ⟨x, hx⟩ : ∃ x, x = if g.er = 0 then .nilIface else E (g.er - 1) := ⟨_, rfl⟩
  rw [← hx] at C CK
  clear hx
  go_enter Tryd.func15, Tryd.ntmps15
  go_wp2_with (first
    | (go_at_call 28; refine (CK.out _ hb).mono ?_; rintro e w2 ⟨r, rfl, rfl, hr⟩)
    | (go_at_call 26; refine C.out.mono ?_; rintro e w2 ⟨v, x, rfl, hb, hA⟩; obtain ⟨rfl, rfl⟩ := hA.out; clear hA))
  go_ret
  exact ⟨r, rfl, below_step HB.out hb, hr⟩
end Go.Proofs.YtpahejmkidhhhaaDoor.G
end

section
namespace Go.Proofs.YtpahejmkidhhhaaDoor.G
set_option linter.unusedVariables false
set_option linter.unusedSimpArgs false
open Go.RowKit Go.Proofs.YtpahejmkidhhhaaDoorW.PrintWords

theorem igAt_ok (xs : List Int) (s : Nat) (hs : s ≤ xs.length) : (igAt xs s).vb ≤ (igAt xs s).ve ∧ (igAt xs s).ve ≤ xs.length ∧ (igAt xs s).er ≤ 6 := by
  have hb := bl_le (xs.drop s)
  rw [List.length_drop] at hb
  unfold igAt
  rw [List.length_drop]
  by_cases h : bl (xs.drop s) = xs.length - s
  · rw [if_pos h]; simp
  · rw [if_neg h]
    obtain ⟨h1, h2, h3, h4, h5, h6, h7⟩ := gt_bound (xs := xs) (o := s + bl (xs.drop s)) (by omega)
    by_cases h8 : (gt xs (s + bl (xs.drop s))).er = 0
    · rw [if_pos h8]
      have h9 := h3 h8
      by_cases h10 : (gt xs (s + bl (xs.drop s))).kind = 1
      · rw [if_pos h10]; have := h9.2.2 h10; simp; omega
      · rw [if_neg h10]; simp; omega
    · rw [if_neg h8]; simp; omega
theorem ig_ok {xs : List Int} {s : Int} (hs : s = -1 ∨ ∃ s0 : Nat, s0 ≤ xs.length ∧ s = s0) : (ig xs s).vb ≤ (ig xs s).ve ∧ (ig xs s).ve ≤ xs.length ∧ (ig xs s).er ≤ 6 := by
  rcases hs with rfl | ⟨s0, h0, rfl⟩
  · exact ⟨Nat.le_refl _, Nat.zero_le _, by show 1 ≤ 6; decide⟩
  · have : ig xs (s0 : Int) = igAt xs s0 := rfl
    rw [this]; exact igAt_ok xs s0 h0
/-- internalGet, with keys or none. -/
theorem iget_calls (E : Nat → Value) (K : List ByteArray) (ka : Option Addr) (kn kc h o n c : Nat) (xs : List Int) (w : World) (hkl : K.length = kn) (hm : kn ≤ 140737488351232) (hs : ∀ s ∈ K, s.size ≤ 281474976710656) (hc : kn ≤ kc) (hka : KeysAt w ka K) (hG : SW w E) (H : RowAt w h o xs) (hby : Bytes xs) (hl : xs.length = n) (hn : n ≤ 140737488351232) (hnc : n ≤ c) :
    Calls Tryd.prog 49 #[.agg #[.bool false, .bool false, .int .i64 0], .slice (some ⟨h, o, none⟩) n c, .slice ka kn kc] w (IGA E (ig xs (sks K xs)) h o w) := by
  subst hkl
  cases K with
  | nil => exact iget0_calls E h o n c ka kc xs w hG.er H hby hl hn hnc
  | cons k K =>
    refine igetK_calls E h o n c ka _ kc xs w hG.er H hby hl hn hnc (by simp) (sks (k :: K) xs) ?_ (fun W hb => search_calls E _ (k :: K) (Nat.le_refl _) ka kc h o n c xs W hm hs hc (hka.below hb) (hG.below hb) (H.below hb) hby hl hn hnc)
    have := sks_bound _ (k :: K) xs (Nat.le_refl _)
    rw [hl] at this
    exact this
def strA : ByteArray := { data := #[97] }
def strO : ByteArray := { data := #[123, 125] }
theorem sks_a : sks [strA] [123, 125] = -1 := by
  rw [sks_eq _ (by simp), sk_open (x := 123) (by decide) rfl rfl, sk_close (x := 125) (by decide) rfl rfl, skR_end (by decide)]
theorem ig_a : (ig (bytesOf strO) (sks [strA] (bytesOf strO))).er = 1 := by
  have : bytesOf strO = [123, 125] := by decide
  rw [this, sks_a]; rfl
theorem keys_new (w : World) (s : ByteArray) : KeysAt (w.alloc (.cells #[.string s] 9)) (some ⟨w.heap.size, 0, none⟩) [s] := fun i hi => by
  obtain rfl : i = 0 := by simp at hi; exact hi
  refine ⟨_, rfl, by rw [World.size_alloc]; show w.heap.size < _; omega, ?_⟩
  have := (cell_new w (.string s) 9).1
  simp [Addr.add]
set_option maxHeartbeats 8000000 in
set_option maxRecDepth 100000 in
theorem told_walk (E : Nat → Value) (s : ByteArray) (K : List ByteArray) (ka : Option Addr) (kn kc : Nat) (w : World) (hG : GL E w) (hW : SW w E) (hP : ErP w E) (hs : s.size ≤ 140737488351232) (hkl : K.length = kn) (hkm : kn ≤ 9223372036854775807) (hkc : kn ≤ kc) (hka : KeysAt w ka K) :
    Calls Tryd.prog 5 #[.string s, .slice ka kn kc] w fun e w' => e = .returned (.bool true) ∧ Below w.heap.size w w' := by
  have CF := Aside0.mk (fits1_calls K ka kn kc w (by omega) hkl hka)
  rcases Decidable.em (2147483647 < s.size) with hg | hg
  · clear hkl hka hG hW hP
    go_enter Tryd.func5, Tryd.ntmps5
    go_wp2
    go_ret
    exact ⟨rfl, Below.refl _ _⟩
  · by_cases hg2 : 65536 < s.size
    · clear hkl hka hG hW hP
      go_enter Tryd.func5, Tryd.ntmps5
      go_wp2_with (go_at_call 9; refine CF.out.mono ?_; rintro e w1 ⟨b, rfl, rfl, hb⟩; cases b)
      all_goals go_wp2_with fail
      all_goals go_ret
      all_goals exact ⟨rfl, Below.refl _ _⟩
    · have hig : ∀ hks : (K.length ≤ 2147483647 ∧ ∀ x ∈ K, x.size ≤ 2147483647), ∀ W h c, Below w.heap.size w W → GL E W → RowAt W h 0 (bytesOf s) → s.size ≤ c → Calls Tryd.prog 49 #[.agg #[.bool false, .bool false, .int .i64 0], .slice (some ⟨h, 0, none⟩) s.size c, .slice ka kn kc] W (IGA E (ig (bytesOf s) (sks K (bytesOf s))) h 0 W) :=
        fun hks W h c hb _ hr hc => iget_calls E K ka kn kc h 0 s.size c (bytesOf s) W hkl (by omega) (fun x hx => by have := hks.2 x hx; omega) hkc (hka.below hb) (hW.below hb) hr (bytes_ok s) (bytesOf_length s) (by omega) hc
      have hok := ig_ok (xs := bytesOf s) (sks_bound _ K (bytesOf s) (Nat.le_refl _))
      rw [bytesOf_length] at hok
      obtain ⟨g, hgg⟩ : ∃ g, g = ig (bytesOf s) (sks K (bytesOf s)) := ⟨_, rfl⟩
      rw [← hgg] at hig hok
      have CJ := Aside0.mk (fun (hks : K.length ≤ 2147483647 ∧ ∀ x ∈ K, x.size ≤ 2147483647) W (hb : Below w.heap.size w W) => jrGet_calls E g s (.slice ka kn kc) W (hG.below hb) (hP.below hb) hs hok.2.2 (fun W2 h c hb2 => hig hks W2 h c (below_step hb hb2)))
      have CG := Aside0.mk (fun (hks : K.length ≤ 2147483647 ∧ ∀ x ∈ K, x.size ≤ 2147483647) W (hb : Below w.heap.size w W) => jpGet_calls E g s (.slice ka kn kc) W (hG.below hb) hs ⟨hok.1, hok.2.1⟩ hok.2.2 (fun W2 h c hb2 => hig hks W2 h c (below_step hb hb2)))
      have CZ := fun W (hb : Below w.heap.size w W) => jrGet_calls E (ig (bytesOf strO) (sks [strA] (bytesOf strO))) strO (.slice (some ⟨W.heap.size, 0, none⟩) 1 1) (W.alloc (.cells #[.string strA] 9)) (hG.below (below_step hb (below_alloc1 _))) (hP.below (below_step hb (below_alloc1 _))) (by decide) (by rw [ig_a]; decide) (fun W2 h c hb2 _ hr hc =>
        iget_calls E [strA] (some ⟨W.heap.size, 0, none⟩) 1 1 h 0 _ c (bytesOf strO) W2 rfl (by decide) (fun x hx => by simp at hx; subst hx; decide) (Nat.le_refl _) ((keys_new W strA).below hb2) ((hW.below (below_step hb (below_alloc1 _))).below hb2) hr (bytes_ok _) (bytesOf_length _) (by decide) hc)
      unfold JGA at CG
      rw [ig_a] at CZ
      unfold strA strO at CZ
      have CZ2 : ∀ (H : Nat) W, Below w.heap.size w W → H = W.heap.size → Calls Tryd.prog 15 #[.string { data := #[123, 125] }, .slice (some ⟨H, 0, none⟩) 1 1] (W.alloc (.cells #[.string { data := #[97] }] 9)) (JrA 1 (W.alloc (.cells #[.string { data := #[97] }] 9))) := fun H W hb hH => by subst hH; exact CZ W hb
      clear CZ
      have CZ := Aside0.mk CZ2
      clear CZ2
      have HW := Aside0.mk hW
      clear hkl hka hG hW hP hig hgg
      rcases Decidable.em (g.er = 0) with he | he
      · have HE := Aside0.mk he
        have hd : decide (g.er = 0) = true := decide_eq_true he
        have he1 : JrA g.er = JrA 0 := by rw [he]
        rw [he1] at CJ
        simp only [hd, if_pos he] at CG
        clear he1 hd
        clear he
        go_enter Tryd.func5, Tryd.ntmps5
        go_wp2_with (first
          | (go_at_call 15; refine (CZ.out _ _ (below_step (below_step hb2 hb3) (below_alloc1 _)) (by simp [World.size_alloc])).mono ?_; rintro e w4 ⟨r, rfl, hb4, hr⟩; obtain rfl : r = 1 := hr.out.2.2.2.2 rfl; clear hr)
          | (go_at_call 11; refine (CG.out (hb.out (by trivial)) _ hb2).mono ?_; rintro e w3 ⟨rfl, hb3⟩)
          | (go_at_call 15; refine (CJ.out (hb.out (by trivial)) _ (Below.refl _ _)).mono ?_; rintro e w2 ⟨r, rfl, hb2, hr⟩; obtain rfl : r = 0 := hr.out.2.2.1 rfl; clear hr)
          | (go_at_call 9; refine CF.out.mono ?_; rintro e w1 ⟨b, rfl, rfl, hb⟩; cases b))
        all_goals go_ret
        all_goals first
          | exact ⟨rfl, Below.refl _ _⟩
          | exact ⟨rfl, below_step (below_step (below_step (below_step hb2 hb3) (below_alloc1 _)) (below_alloc1 _)) hb4⟩
      · have HE := Aside0.mk he
        have hd : decide (g.er = 0) = false := decide_eq_false he
        simp only [if_neg he, hd] at CG
        clear he hd
        go_enter Tryd.func5, Tryd.ntmps5
        go_wp2_with (first
          | (go_at_call 15; refine (CZ.out _ _ (below_step (below_step hb2 hb3) (below_alloc1 _)) (by simp [World.size_alloc])).mono ?_; rintro e w4 ⟨r', rfl, hb4, hr⟩; obtain rfl : r' = 1 := hr.out.2.2.2.2 rfl; clear hr)
          | (go_at_call 11; refine (CG.out (hb.out (by trivial)) _ hb2).mono ?_; rintro e w3 ⟨rfl, hb3⟩)
          | (go_at_call 15; refine (CJ.out (hb.out (by trivial)) _ (Below.refl _ _)).mono ?_; rintro e w2 ⟨r, rfl, hb2, hr⟩; have hr0 : (r == 0) = false := (by have := hr.out.2.2.2.1 HE.out; simpa using this); have hr1 := hr.out.1; have hr2 := hr.out.2.1; clear hr)
          | (go_at_call 9; refine CF.out.mono ?_; rintro e w1 ⟨b, rfl, rfl, hb⟩; cases b))
        all_goals go_ret
        all_goals first
          | exact ⟨rfl, Below.refl _ _⟩
          | exact ⟨rfl, below_step (below_step (below_step (below_step hb2 hb3) (below_alloc1 _)) (below_alloc1 _)) hb4⟩
end Go.Proofs.YtpahejmkidhhhaaDoor.G
end
