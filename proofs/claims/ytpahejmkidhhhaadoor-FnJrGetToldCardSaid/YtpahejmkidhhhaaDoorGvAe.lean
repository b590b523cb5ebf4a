/- jsonparser's arrayEach (without keys) with searchKeys' function. -/
import Derived.Test.YtpahejmkidhhhaaDoorGvW
namespace Go.Proofs.YtpahejmkidhhhaaDoor.G
set_option linter.unusedVariables false
set_option linter.unusedSimpArgs false
open Go.RowKit Go.Proofs.YtpahejmkidhhhaaDoorW.PrintWords

/-- All blocks but those of S are as they were. -/
structure Kept (S : Nat → Prop) (w w' : World) : Prop where
  os : w'.os = w.os
  tape : w'.tape = w.tape
  output : w'.output = w.output
  size : w.heap.size ≤ w'.heap.size
  block : ∀ k, k < w.heap.size → ¬ S k → w'.heap[k]? = w.heap[k]?
theorem Kept.refl (S : Nat → Prop) (w : World) : Kept S w w := ⟨rfl, rfl, rfl, Nat.le_refl _, fun _ _ _ => rfl⟩
theorem Kept.of {S : Nat → Prop} {w w' : World} (h : Below w.heap.size w w') : Kept S w w' := ⟨h.os, h.tape, h.output, h.size, fun k hk _ => h.block k hk⟩
theorem Kept.trans {S : Nat → Prop} {w w1 w2 : World} (h : Kept S w w1) (g : Kept S w1 w2) : Kept S w w2 :=
  ⟨g.os.trans h.os, g.tape.trans h.tape, g.output.trans h.output, Nat.le_trans h.size g.size, fun k hk hS => (g.block k (Nat.lt_of_lt_of_le hk h.size) hS).trans (h.block k hk hS)⟩
theorem Kept.drewN {S : Nat → Prop} {w w' : World} (h : Kept S w w') (k : Nat) : Kept S w (w'.drewN k) := ⟨h.os, h.tape, h.output, h.size, h.block⟩
theorem Kept.cell {S : Nat → Prop} {w w' : World} (h : Kept S w w') {B j : Nat} (hB : B < w.heap.size) (hS : ¬ S B) : w'.cell? ⟨B, j, none⟩ = w.cell? ⟨B, j, none⟩ :=
  World.cell?_of_block (w := w) (w' := w') (h.block B hB hS)
theorem RowAt.kept {S : Nat → Prop} {w w' : World} {h o : Nat} {xs : List Int} (H : RowAt w h o xs) (K : Kept S w w') (hS : ¬ S h) : RowAt w' h o xs :=
  ⟨Nat.lt_of_lt_of_le H.1 K.size, fun j hj => by rw [K.cell H.1 hS]; exact H.2 j hj⟩
theorem ErrT.kept {S : Nat → Prop} {w w' : World} {E : Nat → Value} (H : ErrT w E) (K : Kept S w w') (hS : ∀ k, S k → 12 < k) : ErrT w' E :=
  ⟨Nat.lt_of_lt_of_le H.lt K.size, fun k hk => by rw [K.cell (by have := H.lt; omega) (fun h => by have := hS k h; omega)]; exact H.cell k hk, H.ptr⟩
theorem CfgAt.kept {S : Nat → Prop} {w w' : World} {X : Nat} (H : CfgAt w X) (K : Kept S w w') (hS : ¬ S X) : CfgAt w' X := by
  refine ⟨Nat.lt_of_lt_of_le H.1 K.size, ?_, ?_, ?_⟩ <;> rw [K.cell H.1 hS]
  · exact H.2.1
  · exact H.2.2.1
  · exact H.2.2.2
/-- What the function is given. -/
def clV (h o : Nat) (c : Cl) : Value := if c.er = 0 then .slice (some ⟨h, o + c.vb, none⟩) (c.ve - c.vb) (c.ve - c.vb) else .slice none 0 0
def erV (E : Nat → Value) (er : Nat) : Value := if er = 0 then .nilIface else E (er - 1)
structure COk (n : Nat) (c : Cl) : Prop where
  le : c.vb ≤ c.ve
  len : c.ve ≤ n
  off0 : 0 ≤ c.off
  offn : c.off ≤ n
  bad : c.er ≠ 0 → c.vb = 0 ∧ c.ve = 0
  str : c.kind = 1 → 2 ≤ c.off ∧ c.off + (c.ve - c.vb : Nat) ≤ n
theorem gi_ig (l : List Int) : (gi l).kind = (ig l 0).kind ∧ (gi l).vb = (ig l 0).vb ∧ (gi l).ve = (ig l 0).ve ∧ (gi l).en = (ig l 0).en ∧ (gi l).er = (ig l 0).er := by
  have h : ig l 0 = igAt l 0 := rfl
  rw [h]
  unfold gi igAt
  simp only [List.drop_zero, Nat.zero_add]
  by_cases h1 : bl l = l.length
  · rw [if_pos h1, if_pos h1]; exact ⟨rfl, rfl, rfl, rfl, rfl⟩
  · rw [if_neg h1, if_neg h1]
    by_cases h2 : (gt l (bl l)).er = 0
    · rw [if_pos h2, if_pos h2]
      by_cases h3 : (gt l (bl l)).kind = 1
      · rw [if_pos h3, if_pos h3]; exact ⟨rfl, rfl, rfl, rfl, rfl⟩
      · rw [if_neg h3, if_neg h3]; exact ⟨rfl, rfl, rfl, rfl, rfl⟩
    · rw [if_neg h2, if_neg h2]; exact ⟨rfl, rfl, rfl, rfl, rfl⟩
theorem gi_str {l : List Int} (hk : (gi l).kind = 1) (he : (gi l).er = 0) : (gi l).en = (gi l).ve + 1 ∧ 1 ≤ (gi l).vb := by
  unfold gi at *
  by_cases h1 : bl l = l.length
  · rw [if_pos h1] at he; cases he
  · rw [if_neg h1] at hk he ⊢
    by_cases h2 : (gt l (bl l)).er = 0
    · rw [if_pos h2] at hk he ⊢
      by_cases h3 : (gt l (bl l)).kind = 1
      · rw [if_pos h3]
        have := (gt_bound (xs := l) (o := bl l) (by have := bl_le l; omega)).2.2.1 h2
        have := this.2.2 h3
        simp only []
        omega
      · rw [if_neg h3] at hk; exact absurd hk h3
    · rw [if_neg h2] at he; exact absurd he h2
theorem cl_ok {l : List Int} {off : Nat} (h1 : 1 ≤ off) (ho : off ≤ l.length) (hen : (gi (l.drop off)).en ≠ 0) : COk l.length (clOf off (gi (l.drop off))) := by
  obtain ⟨b1, b2, b3, b4, b5, b6⟩ := gi_bound (l.drop off)
  rw [List.length_drop] at b2 b5 b6
  unfold clOf
  by_cases he : (gi (l.drop off)).er = 0
  · rw [if_pos he]
    obtain ⟨c1, c2, c3, c4, c5⟩ := b5 he
    refine ⟨by simp only []; omega, by simp only []; omega, by simp only []; omega, by simp only []; omega, fun h => absurd rfl h, fun hk => ?_⟩
    simp only [] at hk ⊢
    have := gi_str hk he
    omega
  · rw [if_neg he]
    obtain ⟨d1, d2, d3, d4⟩ := b6 he
    by_cases hm : (gi (l.drop off)).en = -1
    · have hk0 : (gi (l.drop off)).kind ≠ 1 := by
        unfold gi at hm ⊢
        by_cases h1 : bl (l.drop off) = (l.drop off).length
        · rw [if_pos h1]; decide
        · rw [if_neg h1] at hm
          split at hm
          · split at hm
            · simp only [] at hm; omega
            · simp only [] at hm; omega
          · simp only [] at hm; omega
      exact ⟨by simp, by simp, by simp only []; omega, by simp only []; omega, fun _ => ⟨rfl, rfl⟩, fun hk => absurd hk hk0⟩
    · refine ⟨by simp, by simp, by simp only []; omega, by simp only []; omega, fun _ => ⟨rfl, rfl⟩, fun hk => ?_⟩
      simp only []
      omega
end Go.Proofs.YtpahejmkidhhhaaDoor.G
