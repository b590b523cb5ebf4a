/- jsonparser's Get without keys as a plain function, and what it tells of a JSON text. -/
import Derived.Test.YtpahejmkidhhhaaDoorGvJd
namespace Go.Proofs.YtpahejmkidhhhaaDoor.G
set_option linter.unusedVariables false
set_option linter.unusedSimpArgs false

/-- What is told of a value: its kind, where its bytes begin and end, the error (0: none). -/
structure Gt where
  kind : Int
  vb : Nat
  ve : Nat
  er : Nat
/-- The value that begins at a place. -/
def gt (xs : List Int) (o : Nat) : Gt :=
  if xs.getD o 0 = 34 then
    if (seAt (xs.drop (o + 1)) 0 false).1 = -1 then ⟨1, o, o, 4⟩ else ⟨1, o, o + 1 + (seAt (xs.drop (o + 1)) 0 false).1.toNat, 0⟩
  else if xs.getD o 0 = 91 then
    if blkAt 91 93 (xs.drop o) 0 0 = -1 then ⟨4, o, o, 5⟩ else ⟨4, o, o + (blkAt 91 93 (xs.drop o) 0 0).toNat, 0⟩
  else if xs.getD o 0 = 123 then
    if blkAt 123 125 (xs.drop o) 0 0 = -1 then ⟨3, o, o, 6⟩ else ⟨3, o, o + (blkAt 123 125 (xs.drop o) 0 0).toNat, 0⟩
  else if xs.getD o 0 = 116 ∨ xs.getD o 0 = 102 then
    if (xs.drop o).take (te (xs.drop o)) = wtrue ∨ (xs.drop o).take (te (xs.drop o)) = wfalse then ⟨5, o, o + te (xs.drop o), 0⟩ else ⟨7, o, o, 2⟩
  else if xs.getD o 0 = 117 ∨ xs.getD o 0 = 110 then
    if (xs.drop o).take (te (xs.drop o)) = wnull then ⟨6, o, o + te (xs.drop o), 0⟩ else ⟨7, o, o, 2⟩
  else if isDg (xs.getD o 0) = true ∨ xs.getD o 0 = 45 then ⟨2, o, o + te (xs.drop o), 0⟩
  else ⟨7, o, o, 2⟩
theorem se_bound (l : List Int) : (seAt l 0 false).1 = -1 ∨ ∃ j : Nat, 1 ≤ j ∧ j ≤ l.length ∧ (seAt l 0 false).1 = (j : Int) := by
  unfold seAt skip
  rw [run_zero]
  rcases blk_str 0 0 0 l false 0 0 false with ⟨h, _⟩ | ⟨j, h1, h2, h3, _⟩
  · exact .inl (by simpa using h)
  · exact .inr ⟨j, h1, h2, by simpa using h3⟩
theorem blk_bound (a b : Int) : ∀ (l : List Int) (s : Nat) (lv : Int) (p : Nat), blkF a b s lv p l = -1 ∨ ∃ j : Nat, 1 ≤ j ∧ j ≤ l.length ∧ blkF a b s lv p l = (p : Int) + j := by
  intro l
  induction l with
  | nil => intro s lv p; left; unfold blkF; rfl
  | cons x r ih =>
    intro s lv p
    have up : ∀ (s' : Nat) (lv' : Int), blkF a b s lv p (x :: r) = blkF a b s' lv' (p + 1) r → blkF a b s lv p (x :: r) = -1 ∨ ∃ j : Nat, 1 ≤ j ∧ j ≤ (x :: r).length ∧ blkF a b s lv p (x :: r) = (p : Int) + j := by
      intro s' lv' h
      rw [h]
      rcases ih s' lv' (p + 1) with h1 | ⟨j, h1, h2, h3⟩
      · exact .inl h1
      · exact .inr ⟨j + 1, by omega, by simp; omega, by rw [h3]; push_cast; omega⟩
    match s with
    | 0 =>
      by_cases h1 : x = 34
      · exact up 1 lv (by rw [blkF, if_pos h1])
      · by_cases h2 : x = a
        · exact up 0 (lv + 1) (by rw [blkF, if_neg h1, if_pos h2])
        · by_cases h3 : x = b
          · by_cases h4 : lv - 1 = 0
            · right
              exact ⟨1, by omega, by simp, by rw [blkF, if_neg h1, if_neg h2, if_pos h3, if_pos h4]; rfl⟩
            · exact up 0 (lv - 1) (by rw [blkF, if_neg h1, if_neg h2, if_pos h3, if_neg h4])
          · exact up 0 lv (by rw [blkF, if_neg h1, if_neg h2, if_neg h3])
    | 1 =>
      by_cases h1 : x = 92
      · exact up 2 lv (by rw [blkF, if_pos h1])
      · by_cases h2 : x = 34
        · exact up 0 lv (by rw [blkF, if_neg h1, if_pos h2])
        · exact up 1 lv (by rw [blkF, if_neg h1, if_neg h2])
    | n + 2 => exact up 1 lv (by rw [blkF] <;> omega)
theorem blkAt_bound (a b : Int) (l : List Int) : blkAt a b l 0 0 = -1 ∨ ∃ j : Nat, 1 ≤ j ∧ j ≤ l.length ∧ blkAt a b l 0 0 = (j : Int) := by
  unfold blkAt
  rw [List.drop_zero]
  rcases blk_bound a b l 0 0 0 with h | ⟨j, h1, h2, h3⟩
  · exact .inl h
  · exact .inr ⟨j, h1, h2, by simpa using h3⟩
/-! ### of a JSON text -/
/-- jsonparser's numbers of kinds. -/
def jk : Nat → Int
  | 4 => 1
  | 3 => 2
  | 6 => 3
  | 5 => 4
  | 2 => 5
  | 1 => 5
  | _ => 6
theorem V_vl {a : Nat} {l : List Int} {p : Pl} {k : Nat} (h : V a l = some (p, k)) : vl a l = some k := by unfold vl; rw [h]; rfl
theorem getD_zero {c : Int} {l : List Int} {xs : List Int} {o : Nat} (h : xs.drop o = c :: l) : xs.getD o 0 = c := by
  have := getD_drop xs o 0
  rw [h] at this
  simpa using this.symm
theorem drop_one {c : Int} {l : List Int} {xs : List Int} {o : Nat} (h : xs.drop o = c :: l) : xs.drop (o + 1) = l := by
  rw [← List.drop_drop, h]; rfl
theorem pre_head {w0 c : Int} {w l : List Int} (h : pre (w0 :: w) (c :: l) = true) : c = w0 := by
  have := pre_take h
  simp only [List.length_cons, List.take_succ_cons, List.cons.injEq] at this
  exact this.1
theorem gt_val {xs : List Int} {o k : Nat} {p : Pl} (hv : V o (xs.drop o) = some (p, k)) (hd : dl (xs.drop (o + k))) :
    ∃ (kd : Nat) (ns : List (Nat × Nat)) (ks : List Pl), p = .mk kd o (o + k) ns ks ∧ gt xs o = ⟨jk kd, o, o + k, 0⟩ ∧ (kd = 4 → xs.getD o 0 = 34 ∧ 2 ≤ k) ∧ (xs.getD o 0 = 34 → kd = 4) := by
  have hl := V_vl hv
  have hkl := V_le hv
  obtain ⟨c, l, hc⟩ : ∃ c l, xs.drop o = c :: l := by
    cases h : xs.drop o with
    | nil => rw [h] at hkl; simp at hkl; omega
    | cons c l => exact ⟨c, l, rfl⟩
  have hg := getD_zero hc
  have hd' : dl ((c :: l).drop k) := by rw [← hc, List.drop_drop]; exact hd
  have hdr := drop_one hc
  rw [V_eq] at hv
  rw [hc] at hv hl
  unfold gt
  rw [hg, hc, hdr]
  rw [one] at hv
  by_cases h1 : c = 123
  · subst h1
    have hb := obj_blk hl
    rw [if_pos rfl] at hv
    cases ho : obj V (o + 1) l with
    | none => rw [ho] at hv; cases hv
    | some r =>
      rw [ho] at hv
      simp only [Option.map_some, Option.some.injEq, Prod.mk.injEq] at hv
      obtain ⟨rfl, rfl⟩ := hv
      refine ⟨6, _, _, rfl, ?_, (fun h => absurd h (by decide)), (fun h => absurd h (by decide))⟩
      rw [if_neg (by decide), if_neg (by decide), if_pos rfl, hb, if_neg (by omega), Int.toNat_natCast]
      rfl
  · rw [if_neg h1] at hv
    by_cases h2 : c = 91
    · subst h2
      have hb := arr_blk hl
      rw [if_pos rfl] at hv
      cases ho : lst V (o + 1) l with
      | none => rw [ho] at hv; cases hv
      | some r =>
        rw [ho] at hv
        simp only [Option.map_some, Option.some.injEq, Prod.mk.injEq] at hv
        obtain ⟨rfl, rfl⟩ := hv
        refine ⟨5, _, _, rfl, ?_, (fun h => absurd h (by decide)), (fun h => absurd h (by decide))⟩
        rw [if_neg (by decide), if_pos rfl, hb, if_neg (by omega), Int.toNat_natCast]
        rfl
    · rw [if_neg h2] at hv
      by_cases h3 : c = 34
      · subst h3
        rw [if_pos rfl] at hv
        cases hq : quo l with
        | none => rw [hq] at hv; cases hv
        | some q =>
          rw [hq] at hv
          have hq1 := quo_le _ _ (Nat.le_refl _) hq
          simp only [Option.map_some, Option.some.injEq, Prod.mk.injEq] at hv
          obtain ⟨rfl, rfl⟩ := hv
          refine ⟨4, _, _, rfl, ?_, (fun _ => ⟨rfl, by omega⟩), (fun _ => rfl)⟩
          rw [if_pos rfl, quo_at hq, if_neg (by show ¬ ((q : Int) = -1); omega)]
          simp only [Int.toNat_natCast]
          rw [show o + 1 + q = o + (1 + q) by omega]
          rfl
      · rw [if_neg h3] at hv
        rw [if_neg h3, if_neg h2, if_neg h1]
        by_cases h4 : c = 45 ∨ isDg c = true
        · rw [if_pos h4] at hv
          have hne : ¬ (c = 116 ∨ c = 102) ∧ ¬ (c = 117 ∨ c = 110) := by
            rcases h4 with rfl | h4
            · decide
            · unfold isDg at h4
              simp only [Bool.and_eq_true, decide_eq_true_eq] at h4
              omega
          cases hq : num (c :: l) with
          | none => rw [hq] at hv; cases hv
          | some q =>
            rw [hq] at hv
            simp only [Option.map_some, Option.some.injEq, Prod.mk.injEq] at hv
            obtain ⟨rfl, rfl⟩ := hv
            refine ⟨3, _, _, rfl, ?_, (fun h => absurd h (by decide)), (fun h => absurd h h3)⟩
            rw [if_neg hne.1, if_neg hne.2, if_pos h4.symm, num_te hq hd']
            rfl
        · rw [if_neg h4] at hv
          by_cases w1 : pre wnull (c :: l) = true
          · rw [if_pos w1] at hv
            have hcc := pre_head w1
            subst hcc
            simp only [Option.some.injEq, Prod.mk.injEq] at hv
            obtain ⟨rfl, rfl⟩ := hv
            have ht := word_te w1 wnull_lt hd'
            refine ⟨0, _, _, rfl, ?_, (fun h => absurd h (by decide)), (fun h => absurd h h3)⟩
            rw [if_neg (by decide), if_pos (by decide), ht, if_pos (pre_take w1)]
            rfl
          · rw [if_neg w1] at hv
            by_cases w2 : pre wfalse (c :: l) = true
            · rw [if_pos w2] at hv
              have hcc := pre_head w2
              subst hcc
              simp only [Option.some.injEq, Prod.mk.injEq] at hv
              obtain ⟨rfl, rfl⟩ := hv
              have ht := word_te w2 wfalse_lt hd'
              refine ⟨1, _, _, rfl, ?_, (fun h => absurd h (by decide)), (fun h => absurd h h3)⟩
              rw [if_pos (by decide), ht, if_pos (.inr (pre_take w2))]
              rfl
            · rw [if_neg w2] at hv
              by_cases w3 : pre wtrue (c :: l) = true
              · rw [if_pos w3] at hv
                have hcc := pre_head w3
                subst hcc
                simp only [Option.some.injEq, Prod.mk.injEq] at hv
                obtain ⟨rfl, rfl⟩ := hv
                have ht := word_te w3 wtrue_lt hd'
                refine ⟨2, _, _, rfl, ?_, (fun h => absurd h (by decide)), (fun h => absurd h h3)⟩
                rw [if_pos (by decide), ht, if_pos (.inl (pre_take w3))]
                rfl
              · rw [if_neg w3] at hv; cases hv
/-- The value of a whole text. -/
theorem J_gt {xs : List Int} {p : Pl} (h : J xs = some p) : bl xs < xs.length ∧ ∃ (kd k : Nat) (ns : List (Nat × Nat)) (ks : List Pl), p = .mk kd (bl xs) (bl xs + k) ns ks ∧ gt xs (bl xs) = ⟨jk kd, bl xs, bl xs + k, 0⟩ ∧ (kd = 4 → xs.getD (bl xs) 0 = 34 ∧ 2 ≤ k) ∧ (xs.getD (bl xs) 0 = 34 → kd = 4) ∧ bl xs + k ≤ xs.length ∧ V (bl xs) (xs.drop (bl xs)) = some (p, k) := by
  unfold J at h
  cases hv : V (bl xs) (xs.drop (bl xs)) with
  | none => rw [hv] at h; cases h
  | some r =>
    obtain ⟨p', k⟩ := r
    rw [hv] at h
    simp only [] at h
    by_cases he : bl xs + k + bl (xs.drop (bl xs + k)) = xs.length
    · rw [if_pos he] at h
      cases h
      have hk := V_le hv
      rw [List.length_drop] at hk
      have hd : dl (xs.drop (bl xs + k)) := by
        cases hx : xs.drop (bl xs + k) with
        | nil => trivial
        | cons c l =>
          rw [hx] at he
          have hlen : (xs.drop (bl xs + k)).length = l.length + 1 := by rw [hx]; rfl
          rw [List.length_drop] at hlen
          refine .inr (.inr (.inr ?_))
          cases hc : isBl c with
          | true => rfl
          | false => rw [bl, hc] at he; simp at he; omega
      obtain ⟨kd, ns, ks, h1, h2, h3, h4⟩ := gt_val hv hd
      exact ⟨by omega, kd, k, ns, ks, h1, h2, h3, h4, by omega, rfl⟩
    · rw [if_neg he] at h; cases h
end Go.Proofs.YtpahejmkidhhhaaDoor.G
