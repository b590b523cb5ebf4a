/- The reference's table of what fits. -/
import Derived.Test.YtiecdhkmlpceoaaDoorGvM
import Derived.OneCell
namespace Go.Proofs.YtiecdhkmlpceoaaDoor.G
set_option linter.unusedVariables false
set_option linter.unusedSimpArgs false
open Go.RowKit Go.Proofs.YtiecdhkmlpceoaaDoorW.PrintWords

/-! ### the plain law -/
noncomputable def fits (ts : List Tm) (cs : List (List UInt8)) (k : Nat) : Bool := @decide (Fit ts (cs.take k)) (Classical.propDecidable _)
theorem fits_iff {ts : List Tm} {cs : List (List UInt8)} {k : Nat} : fits ts cs k = true ↔ Fit ts (cs.take k) := by unfold fits; exact @decide_eq_true_iff _ (Classical.propDecidable _)
theorem bool_ext {a b : Bool} (h : a = true ↔ b = true) : a = b := by cases a <;> cases b <;> simp_all
theorem fits_nil {cs : List (List UInt8)} {k : Nat} (hk : k ≤ cs.length) : fits [] cs k = decide (k = 0) := by
  refine bool_ext ?_
  rw [fits_iff, fit_nil, decide_eq_true_iff]
  constructor
  · intro h; have := congrArg List.length h; rw [List.length_take, List.length_nil] at this; omega
  · rintro rfl; rfl
theorem fits_star0 {ts : List Tm} {cs : List (List UInt8)} : fits (ts ++ [.star]) cs 0 = fits ts cs 0 := by
  refine bool_ext ?_
  rw [fits_iff, fits_iff, List.take_zero]; exact fit_end_star_nil
theorem take_one {cs : List (List UInt8)} {k : Nat} (hk : k < cs.length) : cs.take (k + 1) = cs.take k ++ [cs[k]] := by rw [List.take_add_one, List.getElem?_eq_getElem hk]; rfl
theorem fits_star {ts : List Tm} {cs : List (List UInt8)} {k : Nat} (hk : k < cs.length) : fits (ts ++ [.star]) cs (k + 1) = (fits ts cs (k + 1) || fits (ts ++ [.star]) cs k) := by
  refine bool_ext ?_
  rw [Bool.or_eq_true, fits_iff, fits_iff, fits_iff, take_one hk]; exact fit_end_star
theorem fits_zero {ts : List Tm} {t : Tm} {cs : List (List UInt8)} (ht : t ≠ .star) : fits (ts ++ [t]) cs 0 = false := by
  rw [Bool.eq_false_iff]; intro h
  rw [fits_iff, List.take_zero] at h; exact fit_end_nil ht h
theorem fits_one {ts : List Tm} {cs : List (List UInt8)} {k : Nat} (hk : k < cs.length) : fits (ts ++ [.one]) cs (k + 1) = fits ts cs k := by
  refine bool_ext ?_
  rw [fits_iff, fits_iff, take_one hk]; exact fit_end_one
theorem fits_lit {ts : List Tm} {cs : List (List UInt8)} {e : Bool} {q : List UInt8} {k : Nat} (hk : k < cs.length) (hq : IsChr q) (hc : IsChr cs[k]) : fits (ts ++ [.lit e q]) cs (k + 1) = (fits ts cs k && (chv q : Int) == (chv cs[k] : Int)) := by
  refine bool_ext ?_
  rw [Bool.and_eq_true, fits_iff, fits_iff, take_one hk, fit_end_lit]
  constructor
  · rintro ⟨h1, h2⟩; exact ⟨h2, by rw [h1]; simp⟩
  · rintro ⟨h1, h2⟩; exact ⟨chr_inj hc hq (by simp at h2; omega), h1⟩
/-! ### rows of Booleans -/
def bl (f : Nat → Bool) (n : Nat) : List Value := (List.range n).map fun j => .bool (f j)
def upto (f : Nat → Bool) (k : Nat) : Nat → Bool := fun m => if m < k then f m else false
theorem bl_get {f : Nat → Bool} {n j : Nat} (hj : j < n) : (bl f n)[j]? = some (.bool (f j)) := by simp [bl, hj]
theorem bl_len {f : Nat → Bool} {n : Nat} : (bl f n).length = n := by simp [bl]
theorem bl_ext {f g : Nat → Bool} {n : Nat} (h : ∀ j, j < n → f j = g j) : bl f n = bl g n := by
  unfold bl
  refine List.map_congr_left fun j hj => ?_
  rw [h j (List.mem_range.1 hj)]
theorem bl_set {f : Nat → Bool} {n k : Nat} {b : Bool} : (bl f n).set k (.bool b) = bl (fun m => if m = k then b else f m) n := by
  refine List.ext_getElem? fun j => ?_
  rw [List.getElem?_set]
  by_cases hj : j < n
  · by_cases e : k = j
    · subst e; rw [if_pos rfl, if_pos (by rw [bl_len]; exact hj), bl_get hj, if_pos rfl]
    · rw [if_neg e, bl_get hj, bl_get hj, if_neg (fun h => e h.symm)]
  · have h1 : (bl (fun m => if m = k then b else f m) n)[j]? = none := List.getElem?_eq_none (by rw [bl_len]; omega)
    have h2 : (bl f n)[j]? = none := List.getElem?_eq_none (by rw [bl_len]; omega)
    rw [h1]
    by_cases e : k = j
    · subst e; simp [bl_len, hj]
    · rw [if_neg e, h2]
theorem bl_next {f : Nat → Bool} {n k : Nat} : (bl (upto f k) n).set k (.bool (f k)) = bl (upto f (k + 1)) n := by
  rw [bl_set]
  refine bl_ext fun j hj => ?_
  unfold upto
  by_cases e : j = k
  · subst e; simp
  · simp only [if_neg e]
    by_cases h : j < k
    · rw [if_pos h, if_pos (by omega)]
    · rw [if_neg h, if_neg (by omega)]
theorem bl_none {f : Nat → Bool} {n : Nat} : bl (upto f 0) n = List.replicate n (.bool false) := by
  refine List.ext_getElem? fun j => ?_
  by_cases hj : j < n
  · rw [bl_get hj]; simp [upto, hj]
  · rw [List.getElem?_eq_none (by rw [bl_len]; omega), List.getElem?_eq_none (by simp; omega)]
theorem bl_full {f : Nat → Bool} {n : Nat} : bl (upto f n) n = bl f n := bl_ext fun j hj => by unfold upto; rw [if_pos hj]
theorem bl_made (n : Nat) (f : Nat → Bool) : (madeCells (Value.cells (.bool false)) (n * 1)).toList = bl (upto f 0) n := by
  rw [bl_none, Nat.mul_one]; exact toList_madeCells_one _ _
theorem bl_first {cs : List (List UInt8)} (f : Nat → Bool) : (bl (upto f 0) (cs.length + 1)).set 0 (.bool true) = bl (fits [] cs) (cs.length + 1) := by
  rw [bl_set]
  refine bl_ext fun j hj => ?_
  rw [fits_nil (by omega)]
  by_cases e : j = 0
  · simp [e]
  · simp [e, upto]
theorem info4 : (Tryd.prog.info? 4).map (fun i => (i.zero, i.size, i.bytes)) = some (some (.bool false), 1, 1) := by kernel_rfl
/-- A row below stays. -/
theorem row_keep {w w' : World} {b0 : Nat} {e sz n : Nat} {v : Value} {xs : List Value} (h : w.ownsRow b0 e sz v n xs) (hb : Below w.heap.size w w') : w'.ownsRow b0 e sz v n xs := by
  obtain ⟨h1, h2⟩ := h
  refine ⟨h1, ?_⟩
  rcases h2 with h2 | ⟨g, cap, cur, hv, hg, hh, r⟩
  · exact .inl h2
  · have hlt : g < w.heap.size := by
      rcases Nat.lt_or_ge g w.heap.size with h | h
      · exact h
      · rw [Array.getElem?_eq_none h] at hh; cases hh
    exact .inr ⟨g, cap, cur, hv, hg, by rw [hb.block g hlt]; exact hh, r⟩
/-- A row with something in it: its block, cells, and that it may be written. -/
theorem row_at {w : World} {b0 : Nat} {e sz n : Nat} {v : Value} {xs : List Value} (h : w.ownsRow b0 e sz v n xs) (hn : 0 < n) :
    ∃ g cap, v = .slice (some ⟨g, 0, none⟩) n cap ∧ b0 ≤ g ∧ g < w.heap.size ∧ n ≤ cap ∧ cap ≤ maxLen ∧ (∀ j, j < n * sz → w.cell? ⟨g, j, none⟩ = xs[j]?) ∧ ∀ j, w.frozen? ⟨g, j, none⟩ = false := by
  have h0 := h
  rcases h.2 with ⟨_, h2⟩ | ⟨g, cap, cur, rfl, hbg, hg, hnc, hcm, _⟩
  · omega
  · exact ⟨g, cap, rfl, hbg, (h0.lt g rfl).2, hnc, hcm, fun j hj => h0.cellAt j hj, fun j => h0.frozenAt j⟩
end Go.Proofs.YtiecdhkmlpceoaaDoor.G
