/- Get without keys of a whole JSON text. -/
import Derived.Test.YtpahejmkidhhhaaDoorGvM
import Derived.Test.YtpahejmkidhhhaaDoorGvQ
namespace Go.Proofs.YtpahejmkidhhhaaDoor.G
set_option linter.unusedVariables false
set_option linter.unusedSimpArgs false
open Go.RowKit Go.Proofs.YtpahejmkidhhhaaDoorW.PrintWords

theorem ig_bound (xs : List Int) : (ig xs 0).vb ≤ (ig xs 0).ve ∧ (ig xs 0).ve ≤ xs.length ∧ (ig xs 0).er ≤ 6 := by
  have hb := bl_le xs
  show (igAt xs 0).vb ≤ (igAt xs 0).ve ∧ (igAt xs 0).ve ≤ xs.length ∧ (igAt xs 0).er ≤ 6
  unfold igAt
  simp only [List.drop_zero, Nat.zero_add]
  by_cases h : bl xs = xs.length
  · rw [if_pos h]; simp
  · rw [if_neg h]
    obtain ⟨h1, h2, h3, h4, h5, h6, h7⟩ := gt_bound (xs := xs) (o := bl xs) (by omega)
    by_cases h8 : (gt xs (bl xs)).er = 0
    · rw [if_pos h8]
      have h9 := h3 h8
      by_cases h10 : (gt xs (bl xs)).kind = 1
      · rw [if_pos h10]; have := h9.2.2 h10; simp; omega
      · rw [if_neg h10]; simp; omega
    · rw [if_neg h8]; simp; omega
/-- What Get tells of a JSON text. -/
theorem J_ig {S : ByteArray} {p : Pl} (h : J (bytesOf S) = some p) : ∃ (kd b e : Nat) (ns : List (Nat × Nat)) (ks : List Pl), p = .mk kd b e ns ks ∧ kd ≤ 6 ∧ b ≤ e ∧ e ≤ S.size ∧ (kd = 4 → b + 2 ≤ e) ∧
    (ig (bytesOf S) 0).er = 0 ∧ (ig (bytesOf S) 0).kind = jk kd ∧ (ig (bytesOf S) 0).en = (e : Int) ∧ jgV (bytesOf S) (ig (bytesOf S) 0) = rawS S kd b e := by
  obtain ⟨h1, kd, k, ns, ks, rfl, h2, h3, h4, h5, h6⟩ := J_gt h
  have hk6 : kd ≤ 6 := by
    rw [V_eq] at h6
    cases hd : (bytesOf S).drop (bl (bytesOf S)) with
    | nil => rw [hd] at h6; cases h6
    | cons c l =>
      rw [hd, one] at h6
      split at h6
      · cases ho : obj V (bl (bytesOf S) + 1) l with
        | none => rw [ho] at h6; cases h6
        | some r => rw [ho] at h6; simp at h6; omega
      · split at h6
        · cases ho : lst V (bl (bytesOf S) + 1) l with
          | none => rw [ho] at h6; cases h6
          | some r => rw [ho] at h6; simp at h6; omega
        · split at h6
          · cases ho : quo l with
            | none => rw [ho] at h6; cases h6
            | some r => rw [ho] at h6; simp at h6; omega
          · split at h6
            · cases ho : num (c :: l) with
              | none => rw [ho] at h6; cases h6
              | some r => rw [ho] at h6; simp at h6; omega
            · split at h6
              · simp at h6; omega
              · split at h6
                · simp at h6; omega
                · split at h6
                  · simp at h6; omega
                  · cases h6
  have hS : (bytesOf S).length = S.size := bytesOf_length S
  have hk0 := V_le h6
  have h34 : kd = 4 → bl (bytesOf S) + 2 ≤ bl (bytesOf S) + k := fun h => by have := (h3 h).2; omega
  have hig : ig (bytesOf S) 0 = if (jk kd = 1) then ⟨1, bl (bytesOf S) + 1, bl (bytesOf S) + k - 1, (bl (bytesOf S) : Nat), (bl (bytesOf S) + k : Nat), 0⟩ else ⟨jk kd, bl (bytesOf S), bl (bytesOf S) + k, (bl (bytesOf S) : Nat), (bl (bytesOf S) + k : Nat), 0⟩ := by
    show igAt (bytesOf S) 0 = _
    unfold igAt
    simp only [List.drop_zero, Nat.zero_add]
    rw [if_neg (by omega), h2, if_pos rfl]
  have hj1 : jk kd = 1 ↔ kd = 4 := by
    have : kd = 0 ∨ kd = 1 ∨ kd = 2 ∨ kd = 3 ∨ kd = 4 ∨ kd = 5 ∨ kd = 6 := by omega
    rcases this with rfl | rfl | rfl | rfl | rfl | rfl | rfl <;> decide
  refine ⟨kd, _, _, ns, ks, rfl, hk6, by omega, by omega, h34, ?_⟩
  have ext : ∀ a b : Nat, strOfNums (((bytesOf S).drop a).take (b - a)) = S.extract a b := fun a b => by
    apply bytesOf_inj
    rw [bytesOf_str (fun x hx => bytes_ok S x (List.mem_of_mem_drop (List.mem_of_mem_take hx))), ext_list]; rfl
  by_cases h : kd = 4
  · rw [if_pos (hj1.2 h)] at hig
    rw [hig]
    refine ⟨rfl, (hj1.2 h).symm, rfl, ?_⟩
    unfold jgV rawS
    rw [if_pos rfl, if_pos h]
    exact ext _ _
  · rw [if_neg (fun h' => h (hj1.1 h'))] at hig
    rw [hig]
    refine ⟨rfl, rfl, rfl, ?_⟩
    unfold jgV rawS
    rw [if_pos rfl, if_neg h]
    exact ext _ _
end Go.Proofs.YtpahejmkidhhhaaDoor.G
