/- jsonparser's stringEnd: the place behind the closing quotation mark, eight bytes at once where none matters. -/
import Derived.Test.YtiecdhkmlpceoaaDoorProg
import Derived.Test.YtiecdhkmlpceoaaDoorWWords
import Derived.Test.YtiecdhkmlpceoaaDoorGvZ
import Derived.Test.YtiecdhkmlpceoaaDoorGvSh
import Derived.WalkKit
import Derived.WalkSpells
import Derived.WalkLawsBesides
import Derived.Deep.Cut
import Derived.Deep.CutRange
import Derived.Deep.CutBlock
import Derived.Deep.RegionWith
import Derived.Deep.QuietTactic
import Derived.BigQuiet
import Derived.Outline
namespace Go.Proofs.YtiecdhkmlpceoaaDoor.G
set_option linter.unusedVariables false
set_option linter.unusedSimpArgs false
open Go.RowKit Go.Proofs.YtiecdhkmlpceoaaDoorW.PrintWords

/-! ### rows that are read; runs of backslashes -/
def RowAt (w : World) (h o : Nat) (xs : List Int) : Prop := h < w.heap.size ∧ ∀ j, j < xs.length → w.cell? ⟨h, o + j, none⟩ = some (.int .u8 (xs.getD j 0))
theorem RowAt.below {w w' : World} {h o : Nat} {xs : List Int} (H : RowAt w h o xs) (hb : Below w.heap.size w w') : RowAt w' h o xs :=
  ⟨Nat.lt_of_lt_of_le H.1 hb.size, fun j hj => by rw [hb.cell (p := ⟨h, o + j, none⟩) H.1]; exact H.2 j hj⟩
theorem getD_drop (xs : List Int) (k j : Nat) : (xs.drop k).getD j 0 = xs.getD (k + j) 0 := by simp [List.getD_eq_getElem?_getD]
theorem RowAt.drop {w : World} {h o : Nat} {xs : List Int} (H : RowAt w h o xs) (k : Nat) : RowAt w h (o + k) (xs.drop k) :=
  ⟨H.1, fun j hj => by
    rw [List.length_drop] at hj
    rw [Nat.add_assoc, H.2 (k + j) (by omega), getD_drop]⟩
def Bytes (xs : List Int) : Prop := ∀ x ∈ xs, 0 ≤ x ∧ x < 256
theorem Bytes.drop {xs : List Int} (H : Bytes xs) (k : Nat) : Bytes (xs.drop k) := fun x hx => H x (List.mem_of_mem_drop hx)
theorem Bytes.at' {xs : List Int} (H : Bytes xs) {k : Nat} (hk : k < xs.length) : 0 ≤ xs.getD k 0 ∧ xs.getD k 0 < 256 := by
  have : xs.getD k 0 = xs[k] := by simp [List.getD_eq_getElem?_getD, hk]
  rw [this]; exact H _ (List.getElem_mem hk)
theorem drop_cons' (l : List Int) (i : Nat) (h : i < l.length) : l.drop i = l.getD i 0 :: l.drop (i + 1) := by
  rw [List.drop_eq_getElem_cons h]; simp [List.getD_eq_getElem?_getD, h]
/-- How many backslashes the bytes end with. -/
def trail (l : List Int) : Nat := (l.reverse.takeWhile (· == 92)).length
theorem trail_cons (l : List Int) (b : Int) : trail (l ++ [b]) = if b = 92 then trail l + 1 else 0 := by
  unfold trail
  simp only [List.reverse_append, List.reverse_cons, List.reverse_nil, List.nil_append, List.singleton_append, List.takeWhile_cons]
  by_cases h : b = 92 <;> simp [h]
theorem trail_le (l : List Int) : trail l ≤ l.length := by
  have := List.takeWhile_prefix (· == 92) (l := l.reverse) |>.length_le
  simpa [trail] using this
theorem trail_lt {l : List Int} {t : Nat} (h : t < trail l) : l.getD (l.length - 1 - t) 0 = 92 := by
  have hle := trail_le l
  have h2 : (l.reverse.takeWhile (· == 92))[t]'h = l.reverse[t]'(by simp; omega) := (List.takeWhile_prefix (· == 92)).getElem _
  have h3 : ((l.reverse.takeWhile (· == 92))[t]'h == 92) = true := List.all_takeWhile |> (fun h' => (List.all_eq_true.1 h') _ (List.getElem_mem h))
  rw [h2] at h3
  rw [List.getElem_reverse] at h3
  have h4 : l.length - 1 - t < l.length := by omega
  simpa [List.getD_eq_getElem?_getD, h4] using h3
theorem trail_eq {l : List Int} (h : trail l < l.length) : l.getD (l.length - 1 - trail l) 0 ≠ 92 := by
  have aux : ∀ m : List Int, (h : (m.takeWhile (· == 92)).length < m.length) → m[(m.takeWhile (· == 92)).length]'h ≠ 92 := by
    intro m
    induction m with
    | nil => intro h; simp at h
    | cons a m ih =>
      intro h
      by_cases ha : a = 92
      · subst ha
        simp at h ⊢
        exact ih (by simpa using h)
      · simp [ha]
  have h1 := aux l.reverse (by simpa [trail] using h)
  rw [List.getElem_reverse] at h1
  have h4 : l.length - 1 - trail l < l.length := by omega
  rw [List.getD_eq_getElem?_getD, List.getElem?_eq_getElem h4]
  exact h1
/-- The run of backslashes that ends ahead of place m. -/
def run (xs : List Int) (m : Nat) : Nat := trail (xs.take m)
theorem take_succ' (xs : List Int) (m : Nat) (h : m < xs.length) : xs.take (m + 1) = xs.take m ++ [xs.getD m 0] := by
  rw [List.take_add_one, List.getElem?_eq_getElem h]; simp [List.getD_eq_getElem?_getD, h]
theorem run_succ {xs : List Int} {m : Nat} (h : m < xs.length) : run xs (m + 1) = if xs.getD m 0 = 92 then run xs m + 1 else 0 := by
  unfold run; rw [take_succ' xs m h, trail_cons]
theorem run_zero (xs : List Int) : run xs 0 = 0 := by unfold run trail; simp
theorem run_le {xs : List Int} {m : Nat} (h : m ≤ xs.length) : run xs m ≤ m := by
  have := trail_le (xs.take m); rw [List.length_take, Nat.min_eq_left h] at this; exact this
theorem getD_take {xs : List Int} {m p : Nat} (h : p < m) : (xs.take m).getD p 0 = xs.getD p 0 := by simp [List.getD_eq_getElem?_getD, List.getElem?_take, h]
theorem run_lt {xs : List Int} {m t p : Nat} (hm : m ≤ xs.length) (h : t < run xs m) (hp : t + p + 1 = m) : xs.getD p 0 = 92 := by
  have := trail_lt h
  rw [List.length_take, Nat.min_eq_left hm, show m - 1 - t = p by omega, getD_take (by omega)] at this
  exact this
theorem run_eq {xs : List Int} {m p : Nat} (hm : m ≤ xs.length) (hp : run xs m + p + 1 = m) : xs.getD p 0 ≠ 92 := by
  have h1 : trail (xs.take m) < (xs.take m).length := by rw [List.length_take, Nat.min_eq_left hm]; unfold run at hp; omega
  have := trail_eq h1
  rw [List.length_take, Nat.min_eq_left hm, show m - 1 - trail (xs.take m) = p by unfold run at hp; omega, getD_take (by omega)] at this
  exact this

/-- Where the string ends (the next byte is taken in; the place; a backslash was seen). -/
def seF : Bool → Nat → Bool → List Int → Int × Bool
  | _, _, e, [] => (-1, e)
  | true, p, e, _ :: r => seF false (p + 1) e r
  | false, p, e, b :: r => if b = 92 then seF true (p + 1) true r else if b = 34 then ((p : Int) + 1, e) else seF false (p + 1) e r
def skip (xs : List Int) (m : Nat) : Bool := run xs m % 2 == 1
/-- What is answered from place m on. -/
def seAt (xs : List Int) (m : Nat) (e : Bool) : Int × Bool := seF (skip xs m) m e (xs.drop m)
section
variable {xs : List Int} {m : Nat} {e : Bool} {x : Int}
theorem skip_other (h : m < xs.length) (hx : xs.getD m 0 ≠ 92) : skip xs (m + 1) = false := by unfold skip; rw [run_succ h, if_neg hx]; rfl
theorem skip_back (h : m < xs.length) (hx : xs.getD m 0 = 92) : skip xs (m + 1) = !skip xs m := by
  unfold skip; rw [run_succ h, if_pos hx]
  rcases Nat.mod_two_eq_zero_or_one (run xs m) with h2 | h2
  · rw [show (run xs m + 1) % 2 = 1 by omega, h2]; rfl
  · rw [show (run xs m + 1) % 2 = 0 by omega, h2]; rfl
theorem se_other (h : m < xs.length) (hx : x = xs.getD m 0) (h1 : x ≠ 92) (h2 : x ≠ 34) : seAt xs m e = seAt xs (m + 1) e := by
  unfold seAt
  rw [skip_other h (hx ▸ h1), drop_cons' xs m h, ← hx]
  cases skip xs m
  · rw [seF, if_neg h1, if_neg h2]
  · rw [seF]
theorem se_back (h : m < xs.length) (hx : x = xs.getD m 0) (h1 : x = 92) (he : skip xs m = true → e = true) : seAt xs m e = seAt xs (m + 1) true := by
  unfold seAt
  rw [skip_back h (hx ▸ h1), drop_cons' xs m h, ← hx]
  cases hs : skip xs m
  · rw [seF, if_pos h1]; rfl
  · rw [seF, he hs]; rfl
theorem se_quote (h : m < xs.length) (hx : x = xs.getD m 0) (h1 : x = 34) (hs : skip xs m = false) : seAt xs m e = ((m : Int) + 1, e) := by
  unfold seAt
  rw [hs, drop_cons' xs m h, ← hx, seF, if_neg (by omega), if_pos h1]
theorem se_quoted (h : m < xs.length) (hx : x = xs.getD m 0) (h1 : x = 34) (hs : skip xs m = true) : seAt xs m e = seAt xs (m + 1) e := by
  unfold seAt
  rw [skip_other h (by omega), hs, drop_cons' xs m h, seF]
theorem se_end (h : ¬ m < xs.length) : seAt xs m e = (-1, e) := by
  unfold seAt
  rw [List.drop_eq_nil_of_le (by omega)]; unfold seF; rfl
end
/-- No quotation mark and no backslash ahead of k. -/
def noq (xs : List Int) (k : Nat) : Prop := ∀ j, j < k → xs.getD j 0 ≠ 34 ∧ xs.getD j 0 ≠ 92
theorem noq_run {xs : List Int} : ∀ k, k ≤ xs.length → noq xs k → run xs k = 0
  | 0, _, _ => run_zero xs
  | k + 1, hk, h => by rw [run_succ (by omega), if_neg (h k (by omega)).2]
theorem noq_se {xs : List Int} : ∀ k, k ≤ xs.length → noq xs k → seAt xs k false = seAt xs 0 false
  | 0, _, _ => rfl
  | k + 1, hk, h => by
    rw [← noq_se k (by omega) (fun j hj => h j (by omega)), se_other (x := xs.getD k 0) (by omega) rfl (h k (by omega)).2 (h k (by omega)).1]
theorem take8 (xs : List Int) (k : Nat) (h : k + 8 ≤ xs.length) : (xs.drop k).take 8 = [xs.getD k 0, xs.getD (k + 1) 0, xs.getD (k + 2) 0, xs.getD (k + 3) 0, xs.getD (k + 4) 0, xs.getD (k + 5) 0, xs.getD (k + 6) 0, xs.getD (k + 7) 0] := by
  rw [drop_cons' xs k (by omega), drop_cons' xs (k + 1) (by omega), drop_cons' xs (k + 2) (by omega), drop_cons' xs (k + 3) (by omega), drop_cons' xs (k + 4) (by omega), drop_cons' xs (k + 5) (by omega), drop_cons' xs (k + 6) (by omega), drop_cons' xs (k + 7) (by omega)]
  rfl
/-- The word of the eight bytes from k on. -/
def leW (xs : List Int) (k : Nat) : Int := Lib.leZ ((xs.drop k).take 8)
theorem noq8 {xs : List Int} {k : Nat} (hb : Bytes xs) (h : k + 8 ≤ xs.length) (hn : noq xs k)
    (hz : bits BinOp.or IntKind.u64 (hit (leW xs k) 2459565876494606882) (hit (leW xs k) 6655295901103053916) = 0) : noq xs (k + 8) := by
  unfold leW at hz
  rw [take8 xs k h] at hz
  have hs := swar _ _ _ _ _ _ _ _ (fun z hm => by
    simp only [List.mem_cons, List.not_mem_nil, or_false] at hm
    rcases hm with rfl | rfl | rfl | rfl | rfl | rfl | rfl | rfl <;> exact hb.at' (by omega)) hz
  intro j hj
  rcases Nat.lt_or_ge j k with h1 | h1
  · exact hn j h1
  · have : j = k ∨ j = k + 1 ∨ j = k + 2 ∨ j = k + 3 ∨ j = k + 4 ∨ j = k + 5 ∨ j = k + 6 ∨ j = k + 7 := by omega
    rcases this with rfl | rfl | rfl | rfl | rfl | rfl | rfl | rfl <;> exact hs _ (by simp)
theorem le64_calls (h o n c k : Nat) (xs : List Int) (w : World) (H : RowAt w h o xs) (hb : Bytes xs) (hn : xs.length = n) (hk : k + 8 ≤ n) :
    Calls Tryd.prog 101 #[.agg #[], .slice (some ⟨h, o + k, none⟩) (n - k) (c - k)] w (fun e w' => e = .returned (.int .u64 (leW xs k)) ∧ Below w.heap.size w w') := by
  subst hn
  exact Tryd.binary_LE_Uint64_z ⟨h, o + k, none⟩ (xs.length - k) (c - k) (xs.drop k) w (by omega) (by simp; omega) (fun i hi => by
    have e1 : (⟨h, o + k, none⟩ : Addr).add i = ⟨h, o + k + i, none⟩ := by unfold Addr.add; split <;> simp_all
    rw [e1]
    exact (H.drop k).2 i hi) (fun z hz => by
    obtain ⟨h1, h2⟩ := hb.drop k z hz
    simp [Lit.wf, IntKind.min, IntKind.max, IntKind.bits, IntKind.signed]; omega)
end Go.Proofs.YtiecdhkmlpceoaaDoor.G
