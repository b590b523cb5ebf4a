/- The reference's Member, at, Unique. -/
import Derived.Test.YtmomjgkbimeeoaaGvLp
namespace Go.Proofs.Ytmomjgkbimeeoaa.G
set_option linter.unusedVariables false
set_option linter.unusedSimpArgs false
open Go.RowKit Go.Proofs.YtmomjgkbimeeoaaW.PrintWords

/-- The place as Go tells it. -/
def ixOf (o : Option Nat) : Int := match o with | some i => (i : Int) | none => -1
def IntA (k : Int) (w : World) (e : Ending) (w' : World) : Prop := e = .returned (.int .i64 k) ∧ Below w.heap.size w w'
def BoolA (p : Prop) (w : World) (e : Ending) (w' : World) : Prop := ∃ b : Bool, e = .returned (.bool b) ∧ Below w.heap.size w w' ∧ Aside0 (b = true → p)
theorem memb_first {ks : List ByteArray} {x : ByteArray} {i : Nat} (hi : i < ks.length) (hx : ks.getD i noStr = x) (h : ∀ j, j < i → ks.getD j noStr ≠ x) : memb ks x = some i := by
  cases hm : memb ks x with
  | none =>
    rw [memb_none] at hm
    exact absurd (by rw [← hx, List.getD_eq_getElem?_getD, List.getElem?_eq_getElem hi]; exact List.getElem_mem _) hm
  | some j =>
    obtain ⟨h1, h2⟩ := memb_lt hm
    have h3 : ¬ j < i := fun h4 => h j h4 h2
    have h5 : ¬ i < j := by
      intro h4
      have : ∀ {ks : List ByteArray} {j : Nat}, memb ks x = some j → ∀ i, i < j → ks.getD i noStr ≠ x := by
        intro ks
        induction ks with
        | nil => intro j h; cases h
        | cons k r ih =>
          intro j h i hij
          unfold memb at h
          by_cases e : k = x
          · rw [if_pos e] at h; cases h; omega
          · rw [if_neg e] at h
            obtain ⟨j', hj', rfl⟩ := Option.map_eq_some_iff.1 h
            cases i with
            | zero => simpa using e
            | succ i => simpa using ih hj' i (by omega)
      exact this hm i h4 hx
    have : i = j := by omega
    rw [this]
set_option maxHeartbeats 4000000 in
set_option maxRecDepth 100000 in
theorem member_calls (k : Int) (t : ByteArray) (ks : List ByteArray) (x : ByteArray) (kA : Option Addr) (kc : Nat) (nA : Option Addr) (nn nc : Nat) (w : World) (hkl : ks.length ≤ 140737488351232)
    (hk : ∀ i, i < ks.length → ∃ g o, kA = some ⟨g, o, none⟩ ∧ g < w.heap.size ∧ w.cell? ⟨g, o + i, none⟩ = some (.string (ks.getD i noStr))) :
    Calls Try.prog 16 #[.agg #[.int .i64 k, .string t, .slice kA ks.length kc, .slice nA nn nc], .string x] w (IntA (ixOf (memb ks x)) w) := by
  have HK := Aside0.mk hk
  have hz := heap_alloc_new w (.cells #[.int .i64 k, .string t, .slice kA ks.length kc, .slice nA nn nc] 25)
  have hb := below_alloc1 (w := w) (.cells #[.int .i64 k, .string t, .slice kA ks.length kc, .slice nA nn nc] 25)
  have HB := Aside0.mk hb
  clear hk hz hb
  go_enter Try.func16, Try.ntmps16
  go_wp2_with fail
  go_loop [10] (fun i => ∃ k : Nat, i = .int .i64 k ∧ k ≤ ks.length ∧ Aside0 (∀ j, j < k → ks.getD j noStr ≠ x)) (fun i => ks.length - (intOf i).toNat)
  case atStart => exact ⟨0, rfl, Nat.zero_le _, ⟨fun j hj => by omega⟩⟩
  case round =>
    obtain ⟨i, rfl, hi, HI⟩ := hrel
    by_cases hlt : i < ks.length
    · obtain ⟨g, o, rfl, hgl, hc⟩ := HK.out i hlt
      rw [← HB.out.cell (p := ⟨g, o + i, none⟩) hgl] at hc
      obtain ⟨s, hs⟩ : ∃ s, s = ks.getD i noStr := ⟨_, rfl⟩
      rw [← hs] at hc
      have HS := Aside0.mk hs
      clear hs
      by_cases he : s = x
      · subst he
        have HM : Aside0 (ixOf (memb ks s) = (i : Int)) := ⟨by rw [memb_first hlt HS.out.symm HI.out]; rfl⟩
        go_wp2_with fail
        go_ret
        rw [HM.out]
        exact ⟨rfl, HB.out⟩
      · have hne := toList_ne he
        have HE := Aside0.mk he
        clear he
        go_wp2_with fail
        go_round
        case rel =>
          refine ⟨i + 1, by go_num, by omega, ⟨fun j hj => ?_⟩⟩
          by_cases e : j = i
          · rw [e, ← HS.out]; exact HE.out
          · exact HI.out j (by omega)
        case measure => simp [intOf]; omega
    · obtain rfl : i = ks.length := by omega
      have HM : Aside0 (ixOf (memb ks x) = -1) := ⟨by
        rw [memb_none.2 (fun h => by
          obtain ⟨j, hj, e⟩ := List.getElem_of_mem h
          exact HI.out j hj (by rw [List.getD_eq_getElem?_getD, List.getElem?_eq_getElem hj]; exact e))]
        rfl⟩
      go_wp2_with fail
      go_ret
      rw [HM.out]
      exact ⟨rfl, HB.out⟩
/-- The last of a name. -/
def LastA (ks : List ByteArray) (x : ByteArray) (w : World) (e : Ending) (w' : World) : Prop := ∃ k : Int, e = .returned (.int .i64 k) ∧ Below w.heap.size w w' ∧ Aside0 (∀ j : Nat, k < (j : Int) → j < ks.length → ks.getD j noStr ≠ x)
set_option maxHeartbeats 4000000 in
set_option maxRecDepth 100000 in
theorem at_calls (k : Int) (t : ByteArray) (ks : List ByteArray) (x : ByteArray) (kA : Option Addr) (kc : Nat) (nA : Option Addr) (nn nc : Nat) (w : World) (hkl : ks.length ≤ 140737488351232)
    (hk : ∀ i, i < ks.length → ∃ g o, kA = some ⟨g, o, none⟩ ∧ g < w.heap.size ∧ w.cell? ⟨g, o + i, none⟩ = some (.string (ks.getD i noStr))) :
    Calls Try.prog 18 #[.agg #[.int .i64 k, .string t, .slice kA ks.length kc, .slice nA nn nc], .string x] w (LastA ks x w) := by
  have HK := Aside0.mk hk
  have hb := below_alloc1 (w := w) (.cells #[.int .i64 k, .string t, .slice kA ks.length kc, .slice nA nn nc] 25)
  have HB := Aside0.mk hb
  clear hk hb
  go_enter Try.func18, Try.ntmps18
  go_wp2_with fail
  go_loop [5] (fun i => ∃ k : Int, i = .int .i64 k ∧ -1 ≤ k ∧ k < (ks.length : Int) ∧ Aside0 (∀ j : Nat, k < (j : Int) → j < ks.length → ks.getD j noStr ≠ x)) (fun i => (intOf i + 1).toNat)
  case atStart => exact ⟨(ks.length : Int) - 1, by go_num, by omega, by omega, ⟨fun j hj h2 => by omega⟩⟩
  case round =>
    obtain ⟨k0, rfl, hk1, hk2, HI⟩ := hrel
    by_cases hlt : 0 ≤ k0
    · obtain ⟨i, rfl⟩ : ∃ i : Nat, k0 = i := ⟨k0.toNat, by omega⟩
      have hlt2 : i < ks.length := by omega
      obtain ⟨g, o, rfl, hgl, hc⟩ := HK.out i hlt2
      rw [← HB.out.cell (p := ⟨g, o + i, none⟩) hgl] at hc
      obtain ⟨s, hs⟩ : ∃ s, s = ks.getD i noStr := ⟨_, rfl⟩
      rw [← hs] at hc
      have HS := Aside0.mk hs
      clear hs
      by_cases he : s = x
      · subst he
        go_wp2_with fail
        go_ret
        exact ⟨_, rfl, HB.out, HI⟩
      · have hne := toList_ne he
        have HE := Aside0.mk he
        clear he
        go_wp2_with fail
        go_round
        case rel =>
          refine ⟨(i : Int) - 1, by go_num, by omega, by omega, ⟨fun j hj h2 => ?_⟩⟩
          by_cases e : j = i
          · rw [e, ← HS.out]; exact HE.out
          · exact HI.out j (by omega) h2
        case measure => first | (simp [intOf]; done) | (simp [intOf]; omega)
    · obtain rfl : k0 = -1 := by omega
      go_wp2_with fail
      go_ret
      exact ⟨_, rfl, HB.out, HI⟩
end Go.Proofs.Ytmomjgkbimeeoaa.G
