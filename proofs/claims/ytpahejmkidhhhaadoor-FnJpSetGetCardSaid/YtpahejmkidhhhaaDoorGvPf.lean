/- jsonparser's searches over a text that is cut off; what the search passes by (plain). jsonparser's search finds what keys lead to (plain). jsonparser's search finds what keys lead to, in a text whole or cut off (plain). -/
import Derived.Test.YtpahejmkidhhhaaDoorGvAs
import Derived.Lib.AtoiTie
import Derived.Lib.AtoiAllCases
section
namespace Go.Proofs.YtpahejmkidhhhaaDoor.G
set_option linter.unusedVariables false
set_option linter.unusedSimpArgs false
open Go.Proofs.YtpahejmkidhhhaaDoorW.PrintWords

/-! ### a text that is cut off -/
theorem bl_take : ∀ (l : List Int) (n : Nat), bl (l.take n) = min (bl l) n
  | [], n => by simp [bl]
  | c :: l, 0 => by simp [bl]
  | c :: l, n + 1 => by
    rw [List.take_succ_cons, bl, bl]
    split
    · rw [bl_take l n]; omega
    · simp
theorem te_take : ∀ (l : List Int) (n : Nat), te (l.take n) = min (te l) n
  | [], n => by simp [te]
  | c :: l, 0 => by simp [te]
  | c :: l, n + 1 => by
    rw [List.take_succ_cons, te, te]
    split
    · simp
    · rw [te_take l n]; omega
theorem seF_ge (l : List Int) (s : Bool) (p : Nat) (e : Bool) : (seF s p e l).1 = -1 ∨ (p : Int) + 1 ≤ (seF s p e l).1 := by
  rcases blk_str 0 0 0 l s p 0 e with ⟨h, _⟩ | ⟨j, h1, h2, h3, _⟩
  · exact .inl h
  · right; rw [h3]; omega
theorem se_take_ok : ∀ (l : List Int) (s : Bool) (p : Nat) (e : Bool) (j n : Nat), (seF s p e l).1 = (p : Int) + j → j ≤ n → seF s p e (l.take n) = seF s p e l
  | [], s, p, e, j, n, _, _ => by simp
  | x :: r, s, p, e, j, n, h, hj => by
    have hg := seF_ge (x :: r) s p e
    cases n with
    | zero => omega
    | succ n =>
      obtain ⟨i, rfl⟩ : ∃ i, j = i + 1 := ⟨j - 1, by omega⟩
      rw [List.take_succ_cons]
      cases s
      · by_cases h1 : x = 92
        · rw [seF, if_pos h1] at h ⊢
          rw [seF, if_pos h1]
          exact se_take_ok r true (p + 1) true i n (by rw [h]; push_cast; omega) (by omega)
        · by_cases h2 : x = 34
          · rw [seF, if_neg h1, if_pos h2, seF, if_neg h1, if_pos h2]
          · rw [seF, if_neg h1, if_neg h2] at h ⊢
            rw [seF, if_neg h1, if_neg h2]
            exact se_take_ok r false (p + 1) e i n (by rw [h]; push_cast; omega) (by omega)
      · rw [seF] at h ⊢
        rw [seF]
        exact se_take_ok r false (p + 1) e i n (by rw [h]; push_cast; omega) (by omega)
theorem se_take_no : ∀ (l : List Int) (s : Bool) (p : Nat) (e : Bool) (j n : Nat), (seF s p e l).1 = (p : Int) + j → n < j → (seF s p e (l.take n)).1 = -1
  | [], s, p, e, j, n, h, _ => by rw [List.take_nil, seF]
  | x :: r, s, p, e, j, n, h, hj => by
    cases n with
    | zero => rw [List.take_zero, seF]
    | succ n =>
      obtain ⟨i, rfl⟩ : ∃ i, j = i + 1 := ⟨j - 1, by omega⟩
      rw [List.take_succ_cons]
      cases s
      · by_cases h1 : x = 92
        · rw [seF, if_pos h1] at h ⊢
          exact se_take_no r true (p + 1) true i n (by rw [h]; push_cast; omega) (by omega)
        · by_cases h2 : x = 34
          · rw [seF, if_neg h1, if_pos h2] at h
            simp only [] at h
            omega
          · rw [seF, if_neg h1, if_neg h2] at h ⊢
            exact se_take_no r false (p + 1) e i n (by rw [h]; push_cast; omega) (by omega)
      · rw [seF] at h ⊢
        exact se_take_no r false (p + 1) e i n (by rw [h]; push_cast; omega) (by omega)
theorem seAt0 (l : List Int) (e : Bool) : seAt l 0 e = seF false 0 e l := by unfold seAt skip; rw [run_zero]; rfl
theorem seAt_take_ok {l : List Int} {j n : Nat} {e : Bool} (h : seAt l 0 false = ((j : Int), e)) (hj : j ≤ n) : seAt (l.take n) 0 false = ((j : Int), e) := by
  rw [seAt0] at h ⊢
  rw [se_take_ok l false 0 false j n (by rw [h]; simp) hj, h]
theorem seAt_take_no {l : List Int} {j n : Nat} {e : Bool} (h : seAt l 0 false = ((j : Int), e)) (hj : n < j) : (seAt (l.take n) 0 false).1 = -1 := by
  rw [seAt0] at h ⊢
  exact se_take_no l false 0 false j n (by rw [h]; simp) hj
theorem blk_take : ∀ (a b : Int) (l : List Int) (s : Nat) (lv : Int) (p j n : Nat), blkF a b s lv p l = (p : Int) + j → (j ≤ n → blkF a b s lv p (l.take n) = (p : Int) + j) ∧ (n < j → blkF a b s lv p (l.take n) = -1)
  | a, b, [], s, lv, p, j, n, h => by
    have : blkF a b s lv p [] = -1 := by unfold blkF; rfl
    rw [this] at h
    omega
  | a, b, x :: r, s, lv, p, j, n, h => by
    have hg := blk_bound a b (x :: r) s lv p
    rw [h] at hg
    have hj1 : 1 ≤ j := by
      rcases hg with hg | ⟨i, h1, h2, h3⟩ <;> omega
    cases n with
    | zero => exact ⟨fun hn => by omega, fun _ => by rw [List.take_zero]; unfold blkF; rfl⟩
    | succ n =>
      obtain ⟨i, rfl⟩ : ∃ i, j = i + 1 := ⟨j - 1, by omega⟩
      have up : ∀ (s' : Nat) (lv' : Int), (∀ r', blkF a b s lv p (x :: r') = blkF a b s' lv' (p + 1) r') → (i + 1 ≤ n + 1 → blkF a b s lv p ((x :: r).take (n + 1)) = (p : Int) + (i + 1 : Nat)) ∧ (n + 1 < i + 1 → blkF a b s lv p ((x :: r).take (n + 1)) = -1) := by
        intro s' lv' he
        have ih := blk_take a b r s' lv' (p + 1) i n (by rw [← he, h]; push_cast; omega)
        rw [List.take_succ_cons, he]
        exact ⟨fun hn => by rw [ih.1 (by omega)]; push_cast; omega, fun hn => ih.2 (by omega)⟩
      match s with
      | 0 =>
        by_cases h1 : x = 34
        · exact up 1 lv (fun r' => by rw [blkF, if_pos h1])
        · by_cases h2 : x = a
          · exact up 0 (lv + 1) (fun r' => by rw [blkF, if_neg h1, if_pos h2])
          · by_cases h3 : x = b
            · by_cases h4 : lv - 1 = 0
              · rw [blkF, if_neg h1, if_neg h2, if_pos h3, if_pos h4] at h
                rw [List.take_succ_cons, blkF, if_neg h1, if_neg h2, if_pos h3, if_pos h4]
                exact ⟨fun _ => h, fun hn => by omega⟩
              · exact up 0 (lv - 1) (fun r' => by rw [blkF, if_neg h1, if_neg h2, if_pos h3, if_neg h4])
            · exact up 0 lv (fun r' => by rw [blkF, if_neg h1, if_neg h2, if_neg h3])
      | 1 =>
        by_cases h1 : x = 92
        · exact up 2 lv (fun r' => by rw [blkF, if_pos h1])
        · by_cases h2 : x = 34
          · exact up 0 lv (fun r' => by rw [blkF, if_neg h1, if_pos h2])
          · exact up 1 lv (fun r' => by rw [blkF, if_neg h1, if_neg h2])
      | m + 2 => exact up 1 lv (fun r' => by rw [blkF] <;> omega)
theorem blkAt_take {a b : Int} {l : List Int} {j : Nat} (n : Nat) (h : blkAt a b l 0 0 = (j : Int)) : (j ≤ n → blkAt a b (l.take n) 0 0 = (j : Int)) ∧ (n < j → blkAt a b (l.take n) 0 0 = -1) := by
  unfold blkAt at h ⊢
  rw [List.drop_zero] at h
  rw [List.drop_zero]
  have := blk_take a b l 0 0 0 j n (by rw [h]; simp)
  exact ⟨fun hn => by rw [this.1 hn]; simp, this.2⟩
/-! ### the part of a text that another one begins with -/
/-- From place m on ys has the first N bytes of l. -/
theorem at_drop {ys l : List Int} {m N : Nat} (h : ys.drop m = l.take N) (j : Nat) : ys.drop (m + j) = (l.drop j).take (N - j) := by
  rw [← List.drop_drop, h, List.drop_take]
theorem at_len {ys l : List Int} {m N : Nat} (h : ys.drop m = l.take N) : ys.length - m = min N l.length := by
  have := congrArg List.length h
  rwa [List.length_drop, List.length_take] at this
theorem at_get {ys l : List Int} {m N j : Nat} (h : ys.drop m = l.take N) (hj : j < N) : ys.getD (m + j) 0 = l.getD j 0 := by
  rw [← getD_drop, h, getD_take hj]
theorem at_nil {ys l : List Int} {m N : Nat} (h : ys.drop m = l.take N) (hm : m ≤ ys.length) (hN : N = 0) : ys.length = m := by
  have := at_len h
  omega
/-! ### what the search passes by -/
def noS (x : Int) : Prop := x ≠ 34 ∧ x ≠ 123 ∧ x ≠ 125 ∧ x ≠ 91 ∧ x ≠ 58
section
variable {sub : List ByteArray → List Int → Int} {K : List ByteArray} {ys : List Int} {lv kl : Int} {lm : Bool}
theorem sk_many : ∀ (j m : Nat), m + j ≤ ys.length → (∀ x ∈ (ys.drop m).take j, noS x) → skR sub K ys m lv kl lm = skR sub K ys (m + j) lv kl lm
  | 0, m, _, _ => rfl
  | j + 1, m, h, hx => by
    have hd := drop_cons' ys m (by omega)
    rw [hd, List.take_succ_cons] at hx
    obtain ⟨h1, h2, h3, h4, h5⟩ := hx _ (List.mem_cons_self ..)
    rw [sk_white (by omega) rfl h1 h2 h3 h4 h5, sk_many j (m + 1) (by omega) (fun x hh => hx x (List.mem_cons_of_mem _ hh)), show m + 1 + j = m + (j + 1) by omega]
theorem isBl_noS {x : Int} (h : isBl x = true) : noS x := by
  have := isBl_or' h
  unfold noS; omega
theorem nb_noS {x : Int} (h : nb x) : noS x := by
  unfold nb isDg at h
  simp only [Bool.and_eq_true, decide_eq_true_eq] at h
  unfold noS; omega
theorem lt_noS {x : Int} (h : lt_ x) : noS x := by unfold lt_ at h; unfold noS; omega
theorem sk_blanks (m : Nat) (hm : m ≤ ys.length) : skR sub K ys m lv kl lm = skR sub K ys (m + bl (ys.drop m)) lv kl lm := by
  have h := bl_le (ys.drop m)
  rw [List.length_drop] at h
  exact sk_many _ m (by omega) (fun x hx => isBl_noS (bl_mem x hx))
end
/-- The value that begins a text: what its first byte says. -/
theorem V_cases {a k : Nat} {l : List Int} {p : Pl} (hv : V a l = some (p, k)) : ∃ c l', l = c :: l' ∧
    ((c = 123 ∧ ∃ r, obj V (a + 1) l' = some r ∧ p = .mk 6 a (a + k) r.1 r.2.1 ∧ k = 1 + r.2.2) ∨
     (c = 91 ∧ ∃ r, lst V (a + 1) l' = some r ∧ p = .mk 5 a (a + k) [] r.1 ∧ k = 1 + r.2) ∨
     (c = 34 ∧ ∃ q, quo l' = some q ∧ p = .mk 4 a (a + k) [] [] ∧ k = 1 + q) ∨
     (c ≠ 123 ∧ c ≠ 91 ∧ c ≠ 34 ∧ (∃ kd, kd ≤ 3 ∧ p = .mk kd a (a + k) [] []) ∧ (∀ x ∈ l.take k, noS x ∧ stp x = false))) := by
  match l, hv with
  | [], hv => have := V_le hv; simp at this; omega
  | c :: l, hv =>
    refine ⟨c, l, rfl, ?_⟩
    have hk := V_le hv
    rw [V_eq, one] at hv
    by_cases h1 : c = 123
    · rw [if_pos h1] at hv
      cases ho : obj V (a + 1) l with
      | none => rw [ho] at hv; cases hv
      | some r =>
        rw [ho] at hv
        simp only [Option.map_some, Option.some.injEq, Prod.mk.injEq] at hv
        obtain ⟨rfl, rfl⟩ := hv
        exact .inl ⟨h1, r, rfl, rfl, rfl⟩
    · rw [if_neg h1] at hv
      by_cases h2 : c = 91
      · rw [if_pos h2] at hv
        cases ho : lst V (a + 1) l with
        | none => rw [ho] at hv; cases hv
        | some r =>
          rw [ho] at hv
          simp only [Option.map_some, Option.some.injEq, Prod.mk.injEq] at hv
          obtain ⟨rfl, rfl⟩ := hv
          exact .inr (.inl ⟨h2, r, rfl, rfl, rfl⟩)
      · rw [if_neg h2] at hv
        by_cases h3 : c = 34
        · rw [if_pos h3] at hv
          cases hq : quo l with
          | none => rw [hq] at hv; cases hv
          | some q =>
            rw [hq] at hv
            simp only [Option.map_some, Option.some.injEq, Prod.mk.injEq] at hv
            obtain ⟨rfl, rfl⟩ := hv
            exact .inr (.inr (.inl ⟨h3, q, rfl, rfl, rfl⟩))
        · rw [if_neg h3] at hv
          refine .inr (.inr (.inr ⟨h1, h2, h3, ?_⟩))
          by_cases h4 : c = 45 ∨ isDg c = true
          · rw [if_pos h4] at hv
            cases hq : num (c :: l) with
            | none => rw [hq] at hv; cases hv
            | some q =>
              rw [hq] at hv
              simp only [Option.map_some, Option.some.injEq, Prod.mk.injEq] at hv
              obtain ⟨rfl, rfl⟩ := hv
              exact ⟨⟨3, by omega, rfl⟩, fun x hx => ⟨nb_noS (num_mem hq x hx), nb_stp (num_mem hq x hx)⟩⟩
          · rw [if_neg h4] at hv
            by_cases w1 : pre wnull (c :: l) = true
            · rw [if_pos w1] at hv
              simp only [Option.some.injEq, Prod.mk.injEq] at hv
              obtain ⟨rfl, rfl⟩ := hv
              exact ⟨⟨0, by omega, rfl⟩, fun x hx => ⟨lt_noS (word_mem w1 wnull_lt x hx), lt_stp (word_mem w1 wnull_lt x hx)⟩⟩
            · rw [if_neg w1] at hv
              by_cases w2 : pre wfalse (c :: l) = true
              · rw [if_pos w2] at hv
                simp only [Option.some.injEq, Prod.mk.injEq] at hv
                obtain ⟨rfl, rfl⟩ := hv
                exact ⟨⟨1, by omega, rfl⟩, fun x hx => ⟨lt_noS (word_mem w2 wfalse_lt x hx), lt_stp (word_mem w2 wfalse_lt x hx)⟩⟩
              · rw [if_neg w2] at hv
                by_cases w3 : pre wtrue (c :: l) = true
                · rw [if_pos w3] at hv
                  simp only [Option.some.injEq, Prod.mk.injEq] at hv
                  obtain ⟨rfl, rfl⟩ := hv
                  exact ⟨⟨2, by omega, rfl⟩, fun x hx => ⟨lt_noS (word_mem w3 wtrue_lt x hx), lt_stp (word_mem w3 wtrue_lt x hx)⟩⟩
                · rw [if_neg w3] at hv; cases hv
/-- A value that is passed by, or cut off. -/
theorem sk_value {sub : List ByteArray → List Int → Int} {K : List ByteArray} {ys l : List Int} {a k m N : Nat} {p : Pl} {lv kl : Int} (hv : V a l = some (p, k)) (hy : ys.drop m = l.take N) (hm : m ≤ ys.length) (hne : kl ≠ lv) (ht : tk 58 (l.drop (k + bl (l.drop k))) = false) :
    (k ≤ N → skR sub K ys m lv kl false = skR sub K ys (m + k) lv kl false) ∧ (N < k → skR sub K ys m lv kl false = -1) := by
  have hk := V_le hv
  have hvl := V_vl hv
  have hlen := at_len hy
  rcases Nat.eq_zero_or_pos N with hN | hN
  · have := at_nil hy hm hN
    exact ⟨fun h => by omega, fun _ => skR_end (by omega)⟩
  have hmy : m < ys.length := by omega
  obtain ⟨c, l', rfl, hc⟩ := V_cases hv
  have hx : c = ys.getD m 0 := by
    have := at_get (j := 0) hy hN
    rw [Nat.add_zero] at this
    rw [this]; rfl
  have hnc : ¬ (kl = lv ∧ isIx (K.getD lv.toNat ByteArray.empty) = true) := fun h => hne h.1
  rcases hc with ⟨h1, r, hr, rfl, hkr⟩ | ⟨h1, r, hr, rfl, hkr⟩ | ⟨h1, q, hq, rfl, hkq⟩ | ⟨h1, h2, h3, hkd, hb⟩
  · subst h1
    have hb := blkAt_take N (obj_blk hvl)
    rw [← hy] at hb
    exact ⟨fun h => sk_brace1 hmy hx rfl (hb.1 h), fun h => sk_brace0 hmy hx rfl (hb.2 h)⟩
  · subst h1
    have hb := blkAt_take N (arr_blk hvl)
    rw [← hy] at hb
    exact ⟨fun h => sk_arr1 hmy hx rfl hnc (hb.1 h), fun h => sk_arr0 hmy hx rfl hnc (hb.2 h)⟩
  · subst h1
    have hd1 : ys.drop (m + 1) = l'.take (N - 1) := by have := at_drop hy 1; rwa [List.drop_succ_cons, List.drop_zero] at this
    have hq1 := quo_le _ _ (Nat.le_refl _) hq
    constructor
    · intro h
      have hs := seAt_take_ok (n := N - 1) (quo_at hq) (by omega)
      rw [← hd1] at hs
      have hz : m + 1 + q = m + k := by omega
      by_cases he : m + 1 + q + bl (ys.drop (m + 1 + q)) = ys.length
      · rw [sk_q_end hmy hx rfl hs rfl he, sk_blanks (m + k) (by omega), ← hz, he, skR_end (by omega)]
      · have hb := bl_le (ys.drop (m + 1 + q))
        rw [List.length_drop] at hb
        rw [sk_q_val hmy hx rfl hs rfl (by omega) ?_, sk_blanks (m + k) (by omega), hz]
        intro h58
        have hd2 := at_drop hy k
        have hb2 : bl (ys.drop (m + k)) = min (bl ((34 :: l').drop k)) (N - k) := by rw [hd2, bl_take]
        rw [hz] at he hb h58
        have hlen2 := at_len hd2
        have hbl := bl_le ((34 :: l').drop k)
        rw [List.length_drop] at hbl
        have hlt : bl ((34 :: l').drop k) < N - k := by omega
        rw [Nat.min_eq_left (by omega)] at hb2
        have hd3 := at_drop hd2 (bl ((34 :: l').drop k))
        rw [hb2] at h58
        have h6 := at_get (j := 0) hd3 (by omega)
        rw [Nat.add_zero, h58, List.drop_drop] at h6
        have h7 : k + bl ((34 :: l').drop k) < (34 :: l').length := by
          by_cases hh : k + bl ((34 :: l').drop k) < (34 :: l').length
          · exact hh
          · rw [List.drop_eq_nil_of_le (by omega)] at h6; simp at h6
        rw [drop_cons' _ _ h7] at ht
        have : (34 :: l').getD (k + bl ((34 :: l').drop k)) 0 = 58 := by
          rw [h6, getD_drop]; rfl
        rw [this] at ht
        simp [tk] at ht
    · intro h
      have hs := seAt_take_no (n := N - 1) (quo_at hq) (by omega)
      rw [← hd1] at hs
      exact sk_str0 hmy hx rfl hs
  · constructor
    · intro h
      refine sk_many k m (by omega) (fun x hx' => (hb x ?_).1)
      rw [hy, List.take_take, Nat.min_eq_left h] at hx'
      exact hx'
    · intro h
      rw [sk_many N m (by omega) (fun x hx' => (hb x ?_).1), skR_end (by omega)]
      rw [hy, List.take_take, Nat.min_self] at hx'
      exact List.mem_of_mem_take (by rwa [List.take_take, Nat.min_eq_left (by omega)] : x ∈ ((c :: l').take k).take N)
/-! ### the value that is told, cut off or not -/
theorem gt_inj {k1 k2 : Int} {v1 v2 e1 e2 r1 r2 : Nat} (h : (⟨k1, v1, e1, r1⟩ : Gt) = ⟨k2, v2, e2, r2⟩) : k1 = k2 ∧ v1 = v2 ∧ e1 = e2 ∧ r1 = r2 := by injection h with h1 h2 h3 h4; exact ⟨h1, h2, h3, h4⟩
theorem gt_moved {T ys : List Int} {a m N k : Nat} {kd : Int} (hy : ys.drop m = (T.drop a).take N) (hk : 1 ≤ k) (hkN : k ≤ N) (hg : gt T a = ⟨kd, a, a + k, 0⟩) : gt ys m = ⟨kd, m, m + k, 0⟩ := by
  have hx : ys.getD m 0 = T.getD a 0 := by
    have := at_get (j := 0) hy (by omega)
    rwa [Nat.add_zero, getD_drop, Nat.add_zero] at this
  have hd1 : ys.drop (m + 1) = (T.drop (a + 1)).take (N - 1) := by have := at_drop hy 1; rwa [List.drop_drop] at this
  have hte : te (ys.drop m) = min (te (T.drop a)) N := by rw [hy, te_take]
  unfold gt at hg ⊢
  rw [hx]
  by_cases h1 : T.getD a 0 = 34
  · rw [if_pos h1] at hg ⊢
    rcases se_bound (T.drop (a + 1)) with h2 | ⟨j, h2, h3, h4⟩
    · rw [if_pos h2] at hg; exact absurd (gt_inj hg).2.2.2 (by decide)
    · rw [if_neg (by omega), h4, Int.toNat_natCast] at hg
      have hj : a + 1 + j = a + k ∧ kd = 1 := ⟨(gt_inj hg).2.2.1, (gt_inj hg).1.symm⟩
      have hs := seAt_take_ok (n := N - 1) (e := (seAt (T.drop (a + 1)) 0 false).2) (by rw [← h4]) (by omega)
      rw [hd1, hs]
      simp only []
      rw [if_neg (by omega), Int.toNat_natCast, show m + 1 + j = m + k by omega, hj.2]
  · rw [if_neg h1] at hg ⊢
    by_cases h5 : T.getD a 0 = 91
    · rw [if_pos h5] at hg ⊢
      rcases blkAt_bound 91 93 (T.drop a) with h2 | ⟨j, h2, h3, h4⟩
      · rw [if_pos h2] at hg; exact absurd (gt_inj hg).2.2.2 (by decide)
      · rw [if_neg (by omega), h4, Int.toNat_natCast] at hg
        have hj : a + j = a + k ∧ kd = 4 := ⟨(gt_inj hg).2.2.1, (gt_inj hg).1.symm⟩
        have hs := (blkAt_take N h4).1 (by omega)
        rw [hy, hs, if_neg (by omega), Int.toNat_natCast, show j = k by omega, hj.2]
    · rw [if_neg h5] at hg ⊢
      by_cases h6 : T.getD a 0 = 123
      · rw [if_pos h6] at hg ⊢
        rcases blkAt_bound 123 125 (T.drop a) with h2 | ⟨j, h2, h3, h4⟩
        · rw [if_pos h2] at hg; exact absurd (gt_inj hg).2.2.2 (by decide)
        · rw [if_neg (by omega), h4, Int.toNat_natCast] at hg
          have hj : a + j = a + k ∧ kd = 3 := ⟨(gt_inj hg).2.2.1, (gt_inj hg).1.symm⟩
          have hs := (blkAt_take N h4).1 (by omega)
          rw [hy, hs, if_neg (by omega), Int.toNat_natCast, show j = k by omega, hj.2]
      · rw [if_neg h6] at hg ⊢
        have tt : te (T.drop a) = k → te (ys.drop m) = k ∧ (ys.drop m).take (te (ys.drop m)) = (T.drop a).take (te (T.drop a)) := fun h => by
          have h0 : te (ys.drop m) = k := by omega
          exact ⟨h0, by rw [h0, h, hy, List.take_take, Nat.min_eq_left hkN]⟩
        by_cases h7 : T.getD a 0 = 116 ∨ T.getD a 0 = 102
        · rw [if_pos h7] at hg ⊢
          by_cases h8 : (T.drop a).take (te (T.drop a)) = wtrue ∨ (T.drop a).take (te (T.drop a)) = wfalse
          · rw [if_pos h8] at hg
            have hj : a + te (T.drop a) = a + k ∧ kd = 5 := ⟨(gt_inj hg).2.2.1, (gt_inj hg).1.symm⟩
            obtain ⟨t1, t2⟩ := tt (by omega)
            rw [t2, if_pos h8, t1, hj.2]
          · rw [if_neg h8] at hg; exact absurd (gt_inj hg).2.2.2 (by decide)
        · rw [if_neg h7] at hg ⊢
          by_cases h8 : T.getD a 0 = 117 ∨ T.getD a 0 = 110
          · rw [if_pos h8] at hg ⊢
            by_cases h9 : (T.drop a).take (te (T.drop a)) = wnull
            · rw [if_pos h9] at hg
              have hj : a + te (T.drop a) = a + k ∧ kd = 6 := ⟨(gt_inj hg).2.2.1, (gt_inj hg).1.symm⟩
              obtain ⟨t1, t2⟩ := tt (by omega)
              rw [t2, if_pos h9, t1, hj.2]
            · rw [if_neg h9] at hg; exact absurd (gt_inj hg).2.2.2 (by decide)
          · rw [if_neg h8] at hg ⊢
            by_cases h9 : isDg (T.getD a 0) = true ∨ T.getD a 0 = 45
            · rw [if_pos h9] at hg ⊢
              have hj : a + te (T.drop a) = a + k ∧ kd = 2 := ⟨(gt_inj hg).2.2.1, (gt_inj hg).1.symm⟩
              obtain ⟨t1, t2⟩ := tt (by omega)
              rw [t1, hj.2]
            · rw [if_neg h9] at hg; exact absurd (gt_inj hg).2.2.2 (by decide)
/-- A string, an array or an object that is cut off is told as an error. -/
theorem gt_cut {T ys : List Int} {a m N k : Nat} {kd b e : Nat} {ns : List (Nat × Nat)} {ks : List Pl} (hv : V a (T.drop a) = some (.mk kd b e ns ks, k)) (hy : ys.drop m = (T.drop a).take N) (h0 : 1 ≤ N) (hkN : N < k) (h4 : 4 ≤ kd) :
    (gt ys m).er ≠ 0 ∧ (gt ys m).kind = jk kd ∧ (kd = 4 → (gt ys m).er = 4 ∧ (seAt (ys.drop (m + 1)) 0 false).1 = -1 ∧ ys.getD m 0 = 34) := by
  have hvl := V_vl hv
  have hx : ys.getD m 0 = T.getD a 0 := by
    have := at_get (j := 0) hy (by omega)
    rwa [Nat.add_zero, getD_drop, Nat.add_zero] at this
  have hd1 : ys.drop (m + 1) = (T.drop (a + 1)).take (N - 1) := by have := at_drop hy 1; rwa [List.drop_drop] at this
  obtain ⟨c, l', hl, hc⟩ := V_cases hv
  have hg := getD_zero hl
  have hdr := drop_one hl
  unfold gt
  rw [hx, hg]
  rw [hl] at hvl
  rcases hc with ⟨h1, r, hr, hp, hkr⟩ | ⟨h1, r, hr, hp, hkr⟩ | ⟨h1, q, hq, hp, hkq⟩ | ⟨h1, h2, h3, ⟨kd', hkd', hp⟩, hb⟩
  · subst h1
    cases hp
    have hb := (blkAt_take N (obj_blk hvl)).2 hkN
    rw [← hl, ← hy] at hb
    rw [if_neg (by decide), if_neg (by decide), if_pos rfl, if_pos hb]
    exact ⟨by simp, rfl, fun h => absurd h (by decide)⟩
  · subst h1
    cases hp
    have hb := (blkAt_take N (arr_blk hvl)).2 hkN
    rw [← hl, ← hy] at hb
    rw [if_neg (by decide), if_pos rfl, if_pos hb]
    exact ⟨by simp, rfl, fun h => absurd h (by decide)⟩
  · subst h1
    cases hp
    have hs := seAt_take_no (n := N - 1) (quo_at hq) (by omega)
    rw [← hdr, ← hd1] at hs
    rw [if_pos rfl, if_pos hs]
    exact ⟨by simp, rfl, fun _ => ⟨rfl, hs, rfl⟩⟩
  · cases hp; omega
end Go.Proofs.YtpahejmkidhhhaaDoor.G
end

section
namespace Go.Proofs.YtpahejmkidhhhaaDoor.G
set_option linter.unusedVariables false
set_option linter.unusedSimpArgs false
open Go.Proofs.YtpahejmkidhhhaaDoorW.PrintWords

/-! ### a name's characters -/
theorem ue_none {l : List Int} (h : hasB l = false) : ue l = some l := by
  have h1 : ∀ x ∈ l.take l.length, x ≠ 92 := by
    intro x hx hx2
    rw [List.take_length] at hx
    have : hasB l = true := by
      unfold hasB
      exact List.any_eq_true.2 ⟨x, hx, by simp [hx2]⟩
    rw [this] at h; cases h
  rw [ue_run l.length h1 (Nat.le_refl _), List.drop_length, List.take_length, ue_nil]
  simp
theorem ue_key {l : List Int} (e : Bool) (he : e = hasB l) : (if e then ue l else some l) = ue l := by
  subst he
  cases h : hasB l with
  | true => rfl
  | false => rw [ue_none h]; rfl
theorem hexv_isHx {c : Int} (h : isHx c = true) : hexv c ≠ -1 := by
  unfold isHx at h
  simp only [Bool.or_eq_true, Bool.and_eq_true, decide_eq_true_eq] at h
  unfold hexv
  split
  · omega
  · split
    · omega
    · split
      · omega
      · omega
theorem su_some {l : List Int} (h : hx4 l = true) (x y : Int) (n : Nat) (hn : 4 ≤ n) : ∃ r, su (x :: y :: l.take n) = some r := by
  obtain ⟨a, b, c, d, r, rfl, y1, y2, y3, y4⟩ := hx4_split h
  obtain ⟨n, rfl⟩ : ∃ i, n = i + 4 := ⟨n - 4, by omega⟩
  simp only [List.take_succ_cons]
  unfold su
  rw [if_neg (by simp), if_neg]
  · exact ⟨_, rfl⟩
  · simp only [List.getD_cons_succ, List.getD_cons_zero]
    have := hexv_isHx y1; have := hexv_isHx y2; have := hexv_isHx y3; have := hexv_isHx y4
    omega
theorem quo_ue : ∀ (n : Nat) {l : List Int} {q : Nat}, l.length ≤ n → quo l = some q → ∃ u, ue (l.take (q - 1)) = some u
  | n, [], q, _, h => by rw [quo] at h; cases h
  | 0, c :: l, q, hn, h => by simp at hn
  | n + 1, c :: l, q, hn, h => by
    simp only [List.length_cons] at hn
    rw [quo_c] at h
    by_cases h1 : c = 34
    · rw [if_pos h1] at h
      cases h
      exact ⟨[], rfl⟩
    · rw [if_neg h1] at h
      by_cases h2 : c < 32
      · rw [if_pos h2] at h; cases h
      · rw [if_neg h2] at h
        by_cases h3 : c = 92
        · rw [if_pos h3] at h
          cases he : esc l with
          | none => rw [he] at h; cases h
          | some j =>
            rw [he] at h
            simp only [] at h
            cases hq : quo (l.drop j) with
            | none => rw [hq] at h; cases h
            | some q' =>
              rw [hq] at h
              have hqq : q' + (j + 1) = q := by simpa using h
              have hq1 := quo_le _ _ (Nat.le_refl _) hq
              have hj := esc_le he
              obtain ⟨m, hm⟩ : ∃ m, q - 1 = m + 1 := ⟨q - 2, by omega⟩
              have hmm : m = j + (q' - 1) := by omega
              rw [hm, List.take_succ_cons, ue_esc h3]
              match l, he, hj with
              | d :: l, he, hj =>
                obtain ⟨i, rfl⟩ : ∃ i, m = i + 1 := ⟨m - 1, by omega⟩
                rw [List.take_succ_cons]
                rw [esc] at he
                by_cases h4 : isEs d = true
                · rw [if_pos h4] at he
                  cases he
                  have h6 : e1 (c :: d :: l.take i) = some (2, [shortc d]) := by
                    unfold e1
                    rw [if_neg (by simp), if_pos (by simpa using h4)]
                    rfl
                  rw [h6]
                  simp only [List.drop_succ_cons, List.drop_zero] at hq ⊢
                  obtain ⟨u, hu⟩ := quo_ue n (by simp at hn; omega) hq
                  rw [show i = q' - 1 by omega, hu]
                  exact ⟨_, rfl⟩
                · rw [if_neg h4] at he
                  by_cases h5 : (d == 117 && hx4 l) = true
                  · rw [if_pos h5] at he
                    cases he
                    simp only [Bool.and_eq_true, beq_iff_eq] at h5
                    obtain ⟨rfl, h5⟩ := h5
                    simp only [List.drop_succ_cons, List.drop_zero] at hq
                    rw [List.length_drop] at hq1
                    have hl4 : (l.drop 4).length = l.length - 4 := List.length_drop
                    obtain ⟨r, hr⟩ := su_some h5 c 117 i (by omega)
                    have fin6 : ∀ x : Int, e1 (c :: 117 :: l.take i) = some (6, u8 x) → ∃ u, (match e1 (c :: 117 :: l.take i) with | none => none | some (n, bs) => (ue ((c :: 117 :: l.take i).drop n)).map (bs ++ ·)) = some u := fun x hx => by
                      rw [hx]
                      simp only [List.drop_succ_cons, List.drop_zero]
                      obtain ⟨u, hu⟩ := quo_ue n (by simp at hn; omega) hq
                      rw [List.drop_take, show i - 4 = q' - 1 by omega, hu]
                      exact ⟨_, rfl⟩
                    have e1u : e1 (c :: 117 :: l.take i) = (du (c :: 117 :: l.take i)).map fun r => (r.2, u8 r.1) := by
                      unfold e1
                      rw [if_neg (by simp), if_neg (by simpa using h4), if_pos (by simp)]
                    by_cases c1 : ¬ (55296 ≤ r ∧ r ≤ 57343)
                    · exact fin6 r (by rw [e1u]; unfold du; rw [hr]; simp only []; rw [if_pos c1]; rfl)
                    · by_cases c2 : 56320 ≤ r
                      · exact fin6 65533 (by rw [e1u]; unfold du; rw [hr]; simp only []; rw [if_neg c1, if_pos c2]; rfl)
                      · by_cases c3 : (c :: 117 :: l.take i).length < 8 ∨ (c :: 117 :: l.take i).getD 6 0 ≠ 92 ∨ (c :: 117 :: l.take i).getD 7 0 ≠ 117
                        · exact fin6 65533 (by rw [e1u]; unfold du; rw [hr]; simp only []; rw [if_neg c1, if_neg c2, if_pos c3]; rfl)
                        · have c3' := c3
                          simp only [not_or, Decidable.not_not, List.length_cons, List.length_take, List.getD_cons_succ] at c3'
                          obtain ⟨d1, d2, d3⟩ := c3'
                          rw [getD_take (by omega)] at d2 d3
                          have hl6 : l.drop 4 = 92 :: 117 :: l.drop 6 := by
                            rw [drop_cons' l 4 (by omega), d2, drop_cons' l 5 (by omega), d3]
                          rw [hl6, quo_c, if_neg (by decide), if_neg (by decide), if_pos rfl] at hq
                          cases he2 : esc (117 :: l.drop 6) with
                          | none => rw [he2] at hq; cases hq
                          | some j2 =>
                            rw [he2] at hq
                            rw [esc, if_neg (by decide)] at he2
                            by_cases h7 : hx4 (l.drop 6) = true
                            · rw [h7] at he2
                              cases he2
                              simp only [List.drop_succ_cons] at hq
                              cases hq2 : quo ((l.drop 6).drop 4) with
                              | none => rw [hq2] at hq; cases hq
                              | some q2 =>
                                rw [hq2] at hq
                                have hqq2 : q2 + (5 + 1) = q' := by simpa using hq
                                have hq3 := quo_le _ _ (Nat.le_refl _) hq2
                                rw [List.length_drop, List.length_drop] at hq3
                                have hdr : (c :: 117 :: l.take i).drop 6 = 92 :: 117 :: (l.drop 6).take (i - 6) := by
                                  simp only [List.drop_succ_cons]
                                  rw [List.drop_take, hl6]
                                  obtain ⟨y, hy⟩ : ∃ y, i - 4 = y + 2 := ⟨i - 6, by omega⟩
                                  rw [hy, List.take_succ_cons, List.take_succ_cons, show i - 6 = y by omega]
                                obtain ⟨s, hs⟩ := su_some h7 92 117 (i - 6) (by omega)
                                rw [← hdr] at hs
                                by_cases c4 : s < 56320 ∨ 57343 < s
                                · exact fin6 65533 (by rw [e1u]; unfold du; rw [hr]; simp only []; rw [if_neg c1, if_neg c2, if_neg c3, hs]; simp only []; rw [if_pos c4]; rfl)
                                · have hx : e1 (c :: 117 :: l.take i) = some (12, u8 (65536 + (r - 55296) * 1024 + (s - 56320))) := by
                                    rw [e1u]; unfold du; rw [hr]; simp only []; rw [if_neg c1, if_neg c2, if_neg c3, hs]; simp only []; rw [if_neg c4]; rfl
                                  rw [hx]
                                  simp only [List.drop_succ_cons]
                                  rw [List.drop_drop] at hq2
                                  obtain ⟨u, hu⟩ := quo_ue n (by simp at hn; rw [List.length_drop]; omega) hq2
                                  rw [List.drop_take, show i - 10 = q2 - 1 by omega, hu]
                                  exact ⟨_, rfl⟩
                            · rw [if_neg (by simp [h7])] at he2; cases he2
                  · rw [if_neg h5] at he; cases he
        · rw [if_neg h3] at h
          cases hq : quo l with
          | none => rw [hq] at h; cases h
          | some q' =>
            rw [hq] at h
            have hqq : q' + 1 = q := by simpa using h
            have hq1 := quo_le _ _ (Nat.le_refl _) hq
            obtain ⟨m, hm⟩ : ∃ m, q - 1 = m + 1 := ⟨q' - 1, by omega⟩
            obtain ⟨u, hu⟩ := quo_ue n (by omega) hq
            rw [hm, List.take_succ_cons, ue_other h3, show m = q' - 1 by omega, hu]
            exact ⟨_, rfl⟩
/-! ### where keys lead -/
def Pl.kd : Pl → Nat | .mk k _ _ _ _ => k
def Pl.b : Pl → Nat | .mk _ b _ _ _ => b
def Pl.e : Pl → Nat | .mk _ _ e _ _ => e
/-- The characters of a name. -/
def nmv (T : List Int) (s : Nat × Nat) : Option (List Int) := ue ((T.drop (s.1 + 1)).take (s.2 - s.1 - 2))
/-- An index in decimal digits without a needless zero. -/
def ixF : Nat → List Int → Option Nat
  | n, [] => some n
  | n, c :: l => if c < 48 ∨ 57 < c then none else ixF (if n < 288230376151711744 then n * 10 + (c - 48).toNat else 4611686018427387904) l
def ixOf (l : List Int) : Option Nat := if l = [] ∨ 1 < l.length ∧ l.getD 0 0 = 48 then none else ixF 0 l
/-- The index that a key "[n]" gives. -/
def bkt (s : ByteArray) : Option Nat :=
  if s.size < 3 ∨ (bytesOf s).getD 0 0 ≠ 91 ∨ (bytesOf s).getD (s.size - 1) 0 ≠ 93 then none else ixOf (bytesOf (s.extract 1 (s.size - 1)))
def stepP (T : List Int) : Pl → ByteArray → Option Pl
  | .mk kd _ _ ns ks, key =>
    if kd = 6 then (match ns.findIdx? (fun s => nmv T s == some (bytesOf key)) with | some t => ks[t]? | none => none)
    else if kd = 5 then (match bkt key with | some i => ks[i]? | none => none)
    else none
def seekP (T : List Int) : Pl → List ByteArray → Option Pl
  | p, [] => some p
  | p, k :: K => match stepP T p k with
    | some q => seekP T q K
    | none => none
theorem stepP_mk (T : List Int) (kd b e : Nat) (ns : List (Nat × Nat)) (ks : List Pl) (key : ByteArray) : stepP T (.mk kd b e ns ks) key =
    if kd = 6 then (match ns.findIdx? (fun s => nmv T s == some (bytesOf key)) with | some t => ks[t]? | none => none)
    else if kd = 5 then (match bkt key with | some i => ks[i]? | none => none)
    else none := rfl
theorem V_be {a k : Nat} {l : List Int} {p : Pl} (hv : V a l = some (p, k)) : p.b = a ∧ p.e = a + k := by
  obtain ⟨c, l', _, hc⟩ := V_cases hv
  rcases hc with ⟨_, r, _, rfl, _⟩ | ⟨_, r, _, rfl, _⟩ | ⟨_, q, _, rfl, _⟩ | ⟨_, _, _, ⟨kd, _, rfl⟩, _⟩ <;> exact ⟨rfl, rfl⟩
/-- The first element of some, and the rest. -/
theorem E_cases {a k : Nat} {l : List Int} {ks : List Pl} (h : E a l = some (ks, k)) : ∃ p j ks', V a l = some (p, j) ∧ ks = p :: ks' ∧
    ((ks' = [] ∧ l.getD (j + bl (l.drop j)) 0 = 93 ∧ j + bl (l.drop j) < l.length ∧ k = j + bl (l.drop j) + 1) ∨
     (∃ z b2 k2, z = j + bl (l.drop j) + 1 ∧ b2 = bl (l.drop z) ∧ l.getD (j + bl (l.drop j)) 0 = 44 ∧ j + bl (l.drop j) < l.length ∧ E (a + (z + b2)) (l.drop (z + b2)) = some (ks', k2) ∧ k = z + b2 + k2)) := by
  rw [E_eq] at h
  cases hv : V a l with
  | none => rw [hv] at h; cases h
  | some r =>
    obtain ⟨p, j⟩ := r
    rw [hv] at h
    simp only [] at h
    by_cases h1 : tk 93 (l.drop (j + bl (l.drop j))) = true
    · rw [if_pos h1] at h
      have hl := tk_len h1
      rw [List.length_drop] at hl
      cases h
      exact ⟨p, j, [], rfl, rfl, .inl ⟨rfl, getD_zero (tk_cons h1), by omega, rfl⟩⟩
    · rw [if_neg h1] at h
      by_cases h2 : tk 44 (l.drop (j + bl (l.drop j))) = true
      · rw [if_pos h2] at h
        have hl := tk_len h2
        rw [List.length_drop] at hl
        cases he : E (a + (j + bl (l.drop j) + 1 + bl (l.drop (j + bl (l.drop j) + 1)))) (l.drop (j + bl (l.drop j) + 1 + bl (l.drop (j + bl (l.drop j) + 1)))) with
        | none => rw [he] at h; cases h
        | some r =>
          rw [he] at h
          simp only [Option.map_some, Option.some.injEq, Prod.mk.injEq] at h
          obtain ⟨rfl, rfl⟩ := h
          exact ⟨p, j, r.1, rfl, rfl, .inr ⟨_, _, r.2, rfl, rfl, getD_zero (tk_cons h2), by omega, he, rfl⟩⟩
      · rw [if_neg h2] at h; cases h
theorem M_cases {a k : Nat} {l : List Int} {ns : List (Nat × Nat)} {ks : List Pl} (h : M a l = some (ns, ks, k)) : ∃ q d p j ns' ks', nam l = some (q, d) ∧ V (a + d) (l.drop d) = some (p, j) ∧ ns = (a, a + q) :: ns' ∧ ks = p :: ks' ∧
    ((ns' = [] ∧ ks' = [] ∧ l.getD (d + j + bl (l.drop (d + j))) 0 = 125 ∧ d + j + bl (l.drop (d + j)) < l.length ∧ k = d + j + bl (l.drop (d + j)) + 1) ∨
     (∃ z b2 k2, z = d + j + bl (l.drop (d + j)) + 1 ∧ b2 = bl (l.drop z) ∧ l.getD (d + j + bl (l.drop (d + j))) 0 = 44 ∧ d + j + bl (l.drop (d + j)) < l.length ∧ M (a + (z + b2)) (l.drop (z + b2)) = some (ns', ks', k2) ∧ k = z + b2 + k2)) := by
  rw [M_eq] at h
  cases hn : nam l with
  | none => rw [hn] at h; cases h
  | some qd =>
    obtain ⟨q, d⟩ := qd
    rw [hn] at h
    simp only [] at h
    cases hv : V (a + d) (l.drop d) with
    | none => rw [hv] at h; cases h
    | some r =>
      obtain ⟨p, j⟩ := r
      rw [hv] at h
      simp only [] at h
      by_cases h1 : tk 125 (l.drop (d + j + bl (l.drop (d + j)))) = true
      · rw [if_pos h1] at h
        have hl := tk_len h1
        rw [List.length_drop] at hl
        cases h
        exact ⟨q, d, p, j, [], [], rfl, hv, rfl, rfl, .inl ⟨rfl, rfl, getD_zero (tk_cons h1), by omega, rfl⟩⟩
      · rw [if_neg h1] at h
        by_cases h2 : tk 44 (l.drop (d + j + bl (l.drop (d + j)))) = true
        · rw [if_pos h2] at h
          have hl := tk_len h2
          rw [List.length_drop] at hl
          cases he : M (a + (d + j + bl (l.drop (d + j)) + 1 + bl (l.drop (d + j + bl (l.drop (d + j)) + 1)))) (l.drop (d + j + bl (l.drop (d + j)) + 1 + bl (l.drop (d + j + bl (l.drop (d + j)) + 1)))) with
          | none => rw [he] at h; cases h
          | some r =>
            rw [he] at h
            simp only [Option.map_some, Option.some.injEq, Prod.mk.injEq] at h
            obtain ⟨rfl, rfl, rfl⟩ := h
            exact ⟨q, d, p, j, r.1, r.2.1, rfl, hv, rfl, rfl, .inr ⟨_, _, r.2.2, rfl, rfl, getD_zero (tk_cons h2), by omega, he, rfl⟩⟩
        · rw [if_neg h2] at h; cases h
/-- A place in a text that may have a value behind it. -/
structure InT (T : List Int) (a k : Nat) (p : Pl) : Prop where
  v : V p.b (T.drop p.b) = some (p, p.e - p.b)
  lo : a ≤ p.b
  lt : p.b < p.e
  hi : p.e ≤ a + k
  dl : dl (T.drop p.e)
theorem dl_at {l : List Int} {j : Nat} (h : l.getD (j + bl (l.drop j)) 0 = 93 ∨ l.getD (j + bl (l.drop j)) 0 = 125 ∨ l.getD (j + bl (l.drop j)) 0 = 44) (hl : j + bl (l.drop j) < l.length) : dl (l.drop j) := by
  have hd := drop_cons' l j (by omega)
  cases hb : isBl (l.getD j 0) with
  | true => rw [hd]; exact .inr (.inr (.inr hb))
  | false =>
    have h0 : bl (l.drop j) = 0 := by rw [hd, bl, if_neg (by rw [hb]; decide)]
    rw [h0, Nat.add_zero] at h
    rw [hd]
    show l.getD j 0 = 44 ∨ l.getD j 0 = 93 ∨ l.getD j 0 = 125 ∨ _
    rcases h with h | h | h
    · exact .inr (.inl h)
    · exact .inr (.inr (.inl h))
    · exact .inl h
theorem E_kid {T : List Int} : ∀ (L a k : Nat) (ks : List Pl) (v : Nat) (p : Pl), (T.drop a).length ≤ L → E a (T.drop a) = some (ks, k) → ks[v]? = some p → InT T a k p ∧ p.e < a + k ∧ a + v ≤ p.b
  | L, a, k, ks, v, p, hL, h, hp => by
    obtain ⟨p0, j, ks', hv, rfl, hc⟩ := E_cases h
    have hj := V_le hv
    have hbe := V_be hv
    cases v with
    | zero =>
      simp only [List.getElem?_cons_zero, Option.some.injEq] at hp
      subst hp
      have hd : dl ((T.drop a).drop j) := by
        rcases hc with ⟨_, h1, h2, _⟩ | ⟨z, b2, k2, _, _, h1, h2, _⟩
        · exact dl_at (.inl h1) h2
        · exact dl_at (.inr (.inr h1)) h2
      rw [List.drop_drop] at hd
      have hlt : j < k := by
        rcases hc with ⟨_, h1, h2, h3⟩ | ⟨z, b2, k2, h0, _, h1, h2, h3, h4⟩ <;> omega
      refine ⟨⟨by rw [hbe.1, hbe.2, Nat.add_sub_cancel_left]; exact hv, by omega, by omega, by omega, by rw [hbe.2]; exact hd⟩, by omega, by omega⟩
    | succ v =>
      rcases hc with ⟨rfl, _⟩ | ⟨z, b2, k2, h0, hb2, h1, h2, h3, h4⟩
      · simp at hp
      · rw [List.drop_drop] at h3
        cases L with
        | zero => omega
        | succ L =>
          have hl : (T.drop (a + (z + b2))).length ≤ L := by
            rw [List.length_drop] at hL ⊢; rw [List.length_drop] at hj; omega
          obtain ⟨i1, i2, i3⟩ := E_kid L _ _ _ v p hl h3 (by simpa using hp)
          exact ⟨⟨i1.v, by have := i1.lo; omega, i1.lt, by have := i1.hi; omega, i1.dl⟩, by omega, by omega⟩
theorem M_kid {T : List Int} : ∀ (L a k : Nat) (ns : List (Nat × Nat)) (ks : List Pl) (v : Nat) (p : Pl), (T.drop a).length ≤ L → M a (T.drop a) = some (ns, ks, k) → ks[v]? = some p → InT T a k p ∧ p.e < a + k
  | L, a, k, ns, ks, v, p, hL, h, hp => by
    obtain ⟨q, d, p0, j, ns', ks', hn, hv, rfl, rfl, hc⟩ := M_cases h
    rw [List.drop_drop] at hv
    have hj := V_le hv
    have hbe := V_be hv
    have hd0 := nam_le hn
    cases v with
    | zero =>
      simp only [List.getElem?_cons_zero, Option.some.injEq] at hp
      subst hp
      have hd : dl ((T.drop a).drop (d + j)) := by
        rcases hc with ⟨_, _, h1, h2, _⟩ | ⟨z, b2, k2, _, _, h1, h2, _⟩
        · exact dl_at (.inr (.inl h1)) h2
        · exact dl_at (.inr (.inr h1)) h2
      rw [List.drop_drop, ← Nat.add_assoc] at hd
      have hlt : d + j < k := by
        rcases hc with ⟨_, _, h1, h2, h3⟩ | ⟨z, b2, k2, h0, _, h1, h2, h3, h4⟩ <;> omega
      refine ⟨⟨by rw [hbe.1, hbe.2, Nat.add_sub_cancel_left]; exact hv, by omega, by omega, by omega, by rw [hbe.2]; exact hd⟩, by omega⟩
    | succ v =>
      rcases hc with ⟨_, rfl, _⟩ | ⟨z, b2, k2, h0, hb2, h1, h2, h3, h4⟩
      · simp at hp
      · rw [List.drop_drop] at h3
        cases L with
        | zero => rw [List.length_drop] at hL hj; omega
        | succ L =>
          have hl : (T.drop (a + (z + b2))).length ≤ L := by
            rw [List.length_drop] at hL hj ⊢; omega
          obtain ⟨i1, i2⟩ := M_kid L _ _ _ _ v p hl h3 (by simpa using hp)
          exact ⟨⟨i1.v, by have := i1.lo; omega, i1.lt, by have := i1.hi; omega, i1.dl⟩, by omega⟩
/-- What an array or an object begins with, behind its first byte. -/
theorem kids_of {T : List Int} {a k kd b e : Nat} {ns : List (Nat × Nat)} {ks : List Pl} (hv : V a (T.drop a) = some (.mk kd b e ns ks, k)) :
    (kd = 6 → T.getD a 0 = 123 ∧ ((ks = [] ∧ ns = []) ∨ ∃ k', M (a + 1 + bl (T.drop (a + 1))) (T.drop (a + 1 + bl (T.drop (a + 1)))) = some (ns, ks, k') ∧ k = 1 + (bl (T.drop (a + 1)) + k'))) ∧
    (kd = 5 → T.getD a 0 = 91 ∧ ((ks = [] ∧ T.getD (a + 1 + bl (T.drop (a + 1))) 0 = 93) ∨ ∃ k', E (a + 1 + bl (T.drop (a + 1))) (T.drop (a + 1 + bl (T.drop (a + 1)))) = some (ks, k') ∧ k = 1 + (bl (T.drop (a + 1)) + k'))) ∧
    (kd ≠ 6 → kd ≠ 5 → ks = []) := by
  obtain ⟨c, l', hl, hc⟩ := V_cases hv
  have hg := getD_zero hl
  have hd := drop_one hl
  rcases hc with ⟨h1, r, hr, hp, hkr⟩ | ⟨h1, r, hr, hp, hkr⟩ | ⟨h1, q, hq, hp, hkq⟩ | ⟨h1, h2, h3, ⟨kd', hkd', hp⟩, hb⟩
  · cases hp
    refine ⟨fun _ => ⟨by rw [hg, h1], ?_⟩, fun h => absurd h (by decide), fun h => absurd rfl h⟩
    unfold obj at hr
    rw [← hd] at hr
    by_cases ht : tk 125 ((T.drop (a + 1)).drop (bl (T.drop (a + 1)))) = true
    · rw [if_pos ht] at hr; cases hr; exact .inl ⟨rfl, rfl⟩
    · rw [if_neg ht] at hr
      right
      have hM : mbs V (T.drop (a + 1)).length (a + 1 + bl (T.drop (a + 1))) ((T.drop (a + 1)).drop (bl (T.drop (a + 1)))) = M (a + 1 + bl (T.drop (a + 1))) ((T.drop (a + 1)).drop (bl (T.drop (a + 1)))) :=
        mbs_fuel (fun _ _ _ _ => V_le) _ _ _ _ (by rw [List.length_drop]; omega) (Nat.le_refl _)
      rw [hM, List.drop_drop] at hr
      cases hm : M (a + 1 + bl (T.drop (a + 1))) (T.drop (a + 1 + bl (T.drop (a + 1)))) with
      | none => rw [hm] at hr; cases hr
      | some r' =>
        rw [hm] at hr
        simp only [Option.map_some, Option.some.injEq] at hr
        subst hr
        exact ⟨r'.2.2, rfl, hkr⟩
  · cases hp
    refine ⟨fun h => absurd h (by decide), fun _ => ⟨by rw [hg, h1], ?_⟩, fun _ h => absurd rfl h⟩
    unfold lst at hr
    rw [← hd] at hr
    by_cases ht : tk 93 ((T.drop (a + 1)).drop (bl (T.drop (a + 1)))) = true
    · rw [if_pos ht] at hr; cases hr
      have := getD_zero (tk_cons ht)
      rw [getD_drop] at this
      exact .inl ⟨rfl, this⟩
    · rw [if_neg ht] at hr
      right
      have hM : els V (T.drop (a + 1)).length (a + 1 + bl (T.drop (a + 1))) ((T.drop (a + 1)).drop (bl (T.drop (a + 1)))) = E (a + 1 + bl (T.drop (a + 1))) ((T.drop (a + 1)).drop (bl (T.drop (a + 1)))) :=
        els_fuel (fun _ _ _ _ => V_le) _ _ _ _ (by rw [List.length_drop]; omega) (Nat.le_refl _)
      rw [hM, List.drop_drop] at hr
      cases hm : E (a + 1 + bl (T.drop (a + 1))) (T.drop (a + 1 + bl (T.drop (a + 1)))) with
      | none => rw [hm] at hr; cases hr
      | some r' =>
        rw [hm] at hr
        simp only [Option.map_some, Option.some.injEq] at hr
        subst hr
        exact ⟨r'.2, rfl, hkr⟩
  · cases hp; exact ⟨fun h => absurd h (by decide), fun h => absurd h (by decide), fun _ _ => rfl⟩
  · cases hp; exact ⟨fun h => by omega, fun h => by omega, fun _ _ => rfl⟩
theorem step_in {T : List Int} {a k : Nat} {p q : Pl} {key : ByteArray} (hv : V a (T.drop a) = some (p, k)) (hs : stepP T p key = some q) : InT T a k q ∧ a < q.b ∧ q.e < a + k := by
  obtain ⟨kd, b, e, ns, ks⟩ := p
  obtain ⟨h6, h5, _⟩ := kids_of hv
  rw [stepP_mk] at hs
  have hb := bl_le (T.drop (a + 1))
  by_cases hk6 : kd = 6
  · rw [if_pos hk6] at hs
    obtain ⟨_, h⟩ := h6 hk6
    split at hs
    · rename_i t ht
      rcases h with ⟨rfl, _⟩ | ⟨k', hM, rfl⟩
      · simp at hs
      · obtain ⟨i, i2⟩ := M_kid _ _ _ _ _ t q (Nat.le_refl _) hM hs
        exact ⟨⟨i.v, by have := i.lo; omega, i.lt, by have := i.hi; omega, i.dl⟩, by have := i.lo; omega, by omega⟩
    · cases hs
  · rw [if_neg hk6] at hs
    by_cases hk5 : kd = 5
    · rw [if_pos hk5] at hs
      obtain ⟨_, h⟩ := h5 hk5
      split at hs
      · rename_i t ht
        rcases h with ⟨rfl, _⟩ | ⟨k', hM, rfl⟩
        · simp at hs
        · obtain ⟨i, i2, _⟩ := E_kid _ _ _ _ t q (Nat.le_refl _) hM hs
          exact ⟨⟨i.v, by have := i.lo; omega, i.lt, by have := i.hi; omega, i.dl⟩, by have := i.lo; omega, by omega⟩
      · cases hs
    · rw [if_neg hk5] at hs; cases hs
theorem seek_in {T : List Int} : ∀ (K : List ByteArray) (a k : Nat) (p q : Pl), V a (T.drop a) = some (p, k) → dl (T.drop (a + k)) → seekP T p K = some q → InT T a k q
  | [], a, k, p, q, hv, hd, h => by
    cases h
    have hbe := V_be hv
    have hk := V_le hv
    exact ⟨by rw [hbe.1, hbe.2, Nat.add_sub_cancel_left]; exact hv, by omega, by omega, by omega, by rw [hbe.2]; exact hd⟩
  | key :: K, a, k, p, q, hv, hd, h => by
    rw [seekP] at h
    cases hs : stepP T p key with
    | none => rw [hs] at h; cases h
    | some q0 =>
      rw [hs] at h
      obtain ⟨i, h1, h2⟩ := step_in hv hs
      have hlt := i.lt
      have i2 := seek_in K q0.b (q0.e - q0.b) q0 q i.v (by rw [show q0.b + (q0.e - q0.b) = q0.e by omega]; exact i.dl) h
      exact ⟨i2.v, by have := i2.lo; omega, i2.lt, by have := i2.hi; omega, i2.dl⟩
end Go.Proofs.YtpahejmkidhhhaaDoor.G
end

section
namespace Go.Proofs.YtpahejmkidhhhaaDoor.G
set_option linter.unusedVariables false
set_option linter.unusedSimpArgs false
open Go.Proofs.YtpahejmkidhhhaaDoorW.PrintWords

/-! ### a key "[n]" -/
theorem ixF_ge : ∀ (l : List Int) (n i : Nat), 288230376151711744 ≤ n → ixF n l = some i → 288230376151711744 ≤ i
  | [], n, i, h, he => by cases he; exact h
  | c :: l, n, i, h, he => by
    rw [ixF] at he
    split at he
    · cases he
    · rw [if_neg (by omega)] at he
      exact ixF_ge l _ i (by omega) he
theorem ixF_parse : ∀ (l : List UInt8) (n i : Nat), ixF n (l.map fun b => (b.toNat : Int)) = some i → n < 288230376151711744 → i < 288230376151711744 → Go.Lib.parseUint10 n l = .ok i
  | [], n, i, h, _, _ => by
    rw [List.map_nil, ixF] at h
    cases h
    rfl
  | c :: l, n, i, h, hn, hi => by
    rw [List.map_cons, ixF] at h
    split at h
    · cases h
    · rename_i hc
      (try rw [if_pos hn] at h)
      have hd : ((c.toNat : Int) - 48).toNat = c.toNat - 48 := by omega
      rw [hd] at h
      rw [Go.Lib.parseUint10, if_pos (by omega), if_neg (by omega), if_neg (by omega)]
      by_cases hb : n * 10 + (c.toNat - 48) < 288230376151711744
      · exact ixF_parse l _ i h hb hi
      · have := ixF_ge _ _ _ (by omega) h
        omega
theorem bkt_isIx {s : ByteArray} {i : Nat} (h : bkt s = some i) : isIx s = true := by
  unfold bkt at h
  split at h
  · cases h
  · rename_i hc
    simp only [not_or, Decidable.not_not] at hc
    unfold isIx
    rw [hc.2.1, decide_eq_true (by omega)]
    rfl
theorem bkt_kix {s : ByteArray} {i : Nat} (h : bkt s = some i) (hi : i < 288230376151711744) : kix s = some (i : Int) := by
  unfold bkt at h
  split at h
  · cases h
  · rename_i hc
    simp only [not_or, Decidable.not_not] at hc
    unfold kix
    rw [if_neg (by simp only [not_or, Decidable.not_not]; exact ⟨hc.1, hc.2.2⟩)]
    unfold ixOf at h
    split at h
    · cases h
    · rename_i h0
      simp only [not_or] at h0
      have h1 : bytesOf (s.extract 1 (s.size - 1)) = (s.extract 1 (s.size - 1)).data.toList.map fun b => (b.toNat : Int) := rfl
      rw [h1] at h h0
      generalize (s.extract 1 (s.size - 1)).data.toList = l at h h0
      match l, h, h0 with
      | [], _, h0 => exact absurd rfl h0.1
      | c :: r, h, _ =>
        have hp := ixF_parse _ 0 i h (by omega) hi
        have hc2 : 48 ≤ c.toNat ∧ c.toNat ≤ 57 := by
          rw [List.map_cons, ixF] at h
          split at h
          · cases h
          · omega
        rw [Go.Lib.atoiAll_plain c r (by omega) (by omega)]
        unfold Go.Lib.parseMag
        rw [if_neg (by simp), hp]
        unfold Go.Lib.signless
        simp only []
        rw [if_neg (by omega)]
/-! ### the calls of an array's elements -/
def clP (x : Nat) (p : Pl) : Cl := if p.kd = 4 then ⟨1, x + 1, x + (p.e - p.b) - 1, (x : Int) + 2, 0⟩ else ⟨jk p.kd, x, x + (p.e - p.b), x, 0⟩
def Bad1 (L : List Int) (c : Cl) : Prop := c.er ≠ 0 ∧ (c.kind = 1 → ∃ t : Nat, c.off = t ∧ 2 ≤ t ∧ t < L.length ∧ c.vb = 0 ∧ c.ve = 0 ∧ isBl (L.getD (t - 1) 0) = true ∧ (isBl (L.getD (t - 2) 0) = true ∨ L.getD (t - 2) 0 = 44) ∧ L.getD t 0 = 34 ∧ (seAt (L.drop (t + 1)) 0 false).1 = -1)
theorem jk_one {k : Nat} : jk k = 1 ↔ k = 4 := by
  constructor
  · intro h
    unfold jk at h
    split at h <;> first | rfl | (exact absurd h (by decide))
  · rintro rfl; rfl
theorem gt_cutp {T ys : List Int} {a m N k : Nat} {p : Pl} (hv : V a (T.drop a) = some (p, k)) (hy : ys.drop m = (T.drop a).take N) (h0 : 1 ≤ N) (hkN : N < k) (h4 : 4 ≤ p.kd) : (gt ys m).er ≠ 0 := by
  obtain ⟨kd, b, e, ns, ks⟩ := p
  exact (gt_cut hv hy h0 hkN h4).1
/-- A value that is cut off: an error, or all that is left. -/
theorem gt_part {T ys : List Int} {a m N k : Nat} {p : Pl} (hv : V a (T.drop a) = some (p, k)) (hy : ys.drop m = (T.drop a).take N) (h0 : 1 ≤ N) (hkN : N < k) : (gt ys m).er ≠ 0 ∨ ((gt ys m).er = 0 ∧ (gt ys m).ve = m + N ∧ (gt ys m).kind ≠ 1) := by
  obtain ⟨kd, b, e, ns, ks⟩ := p
  by_cases h4 : 4 ≤ kd
  · exact .inl (gt_cut hv hy h0 hkN h4).1
  · have hx : ys.getD m 0 = T.getD a 0 := by
      have := at_get (j := 0) hy (by omega)
      rwa [Nat.add_zero, getD_drop, Nat.add_zero] at this
    have hk := V_le hv
    obtain ⟨c, l', hl, hc⟩ := V_cases hv
    have hg := getD_zero hl
    rcases hc with ⟨h1, r, hr, hp, hkr⟩ | ⟨h1, r, hr, hp, hkr⟩ | ⟨h1, q, hq, hp, hkq⟩ | ⟨h1, h2, h3, ⟨kd', hkd', hp⟩, hb⟩
    · cases hp; omega
    · cases hp; omega
    · cases hp; omega
    · have hte : te (ys.drop m) = N := by
        have hlen : (ys.drop m).length = N := by rw [hy, List.length_take]; omega
        have : (ys.drop m).drop N = [] := List.drop_eq_nil_of_le (by omega)
        refine te_many N (by omega) (fun x hx' => (hb x ?_).2) (by rw [this]; trivial)
        rw [hy, List.take_take, Nat.min_self] at hx'
        exact List.mem_of_mem_take (by rwa [List.take_take, Nat.min_eq_left (by omega)] : x ∈ ((T.drop a).take k).take N)
      unfold gt
      rw [hx, hg, if_neg h3, if_neg h2, if_neg h1, hte]
      split
      · split
        · exact .inr ⟨rfl, rfl, by simp⟩
        · exact .inl (by simp)
      · split
        · split
          · exact .inr ⟨rfl, rfl, by simp⟩
          · exact .inl (by simp)
        · split
          · exact .inr ⟨rfl, rfl, by simp⟩
          · exact .inl (by simp)
theorem gi_val {M : List Int} {b j kd : Nat} (hb : bl M = b) (hlt : b < M.length) (hg : gt M b = ⟨jk kd, b, b + j, 0⟩) : gi M = if kd = 4 then ⟨1, b + 1, b + j - 1, ((b + j : Nat) : Int), 0⟩ else ⟨jk kd, b, b + j, ((b + j : Nat) : Int), 0⟩ := by
  unfold gi
  rw [hb, if_neg (by omega), hg]
  simp only [if_true]
  by_cases h : kd = 4
  · subst h; rw [if_pos (by rfl), if_pos rfl]
  · rw [if_neg (fun h' => h (jk_one.1 h')), if_neg h]
theorem cl_val {M : List Int} {off b j kd : Nat} {p : Pl} (hg : gi M = if kd = 4 then ⟨1, b + 1, b + j - 1, ((b + j : Nat) : Int), 0⟩ else ⟨jk kd, b, b + j, ((b + j : Nat) : Int), 0⟩) (hk : p.kd = kd) (he : p.e - p.b = j) (h4 : kd = 4 → 2 ≤ j) : clOf off (gi M) = clP (off + b) p := by
  rw [hg]
  unfold clOf clP
  rw [hk, he]
  by_cases h : kd = 4
  · have := h4 h
    rw [if_pos h, if_pos h]
    simp only [if_true]
    congr 1 <;> omega
  · rw [if_neg h, if_neg h]
    simp only [if_true]
    congr 1 <;> omega
theorem V_nb {a k : Nat} {l : List Int} {p : Pl} (hv : V a l = some (p, k)) : bl l = 0 ∧ l.getD 0 0 ≠ 93 ∧ l.getD 0 0 ≠ 125 := by
  have hk := V_le hv
  obtain ⟨c, l', rfl, hc⟩ := V_cases hv
  have h : stp c = false := by
    rcases hc with ⟨rfl, _⟩ | ⟨rfl, _⟩ | ⟨rfl, _⟩ | ⟨_, _, _, _, hb⟩
    · rfl
    · rfl
    · rfl
    · exact (hb c (by
        obtain ⟨k, rfl⟩ : ∃ i, k = i + 1 := ⟨k - 1, by omega⟩
        rw [List.take_succ_cons]; exact List.mem_cons_self ..)).2
  unfold stp at h
  simp only [Bool.or_eq_false_iff, beq_eq_false_iff_ne] at h
  refine ⟨?_, by simp only [List.getD_cons_zero]; omega, by simp only [List.getD_cons_zero]; omega⟩
  refine bl_zero ?_
  unfold isBl
  simp only [Bool.or_eq_false_iff, beq_eq_false_iff_ne]
  omega
set_option maxHeartbeats 1000000 in
theorem calls_of {T L : List Int} : ∀ (f off a0 N0 k : Nat) (ks : List Pl) (v : Nat) (p : Pl),
    L.drop off = (T.drop a0).take N0 → off ≤ L.length → L.length - off < f → (bl (T.drop a0) = 0 ∨ (1 ≤ off ∧ L.getD (off - 1) 0 = 44)) →
    E (a0 + bl (T.drop a0)) (T.drop (a0 + bl (T.drop a0))) = some (ks, k) → ks[v]? = some p →
    (p.e ≤ a0 + N0 → (aeL L f off).1[v]? = some (clP (p.b - a0 + off) p)) ∧
    (a0 + N0 < p.e → 4 ≤ p.kd → (aeL L f off).1[v]? = none ∨ ∃ c, (aeL L f off).1[v]? = some c ∧ Bad1 L c)
  | 0, off, a0, N0, k, ks, v, p, _, _, hf, _, _, _ => by omega
  | f + 1, off, a0, N0, k, ks, v, p, hy, ho, hf, hcm, hE, hp => by
    obtain ⟨hin, hin2, hin3⟩ := E_kid _ _ _ _ v p (Nat.le_refl _) hE hp
    obtain ⟨p0, j, ks', hv, rfl, hc⟩ := E_cases hE
    replace hc := Aside0.mk hc
    have hj := V_le hv
    have hbe := V_be hv
    have hlo := hin.lo
    have hlt := hin.lt
    have hbm : bl (L.drop off) = min (bl (T.drop a0)) N0 := by rw [hy, bl_take]
    have hlen : (L.drop off).length = min N0 (T.drop a0).length := by rw [hy, List.length_take]
    have hll := at_len hy
    have hb0 := bl_le (T.drop a0)
    rw [List.length_drop] at hj
    have hT0 : (T.drop a0).length = T.length - a0 := List.length_drop
    obtain ⟨b0, hb0e⟩ : ∃ b, b = bl (T.drop a0) := ⟨_, rfl⟩
    rw [← hb0e] at hv hbe hc hj hlo hbm hb0 hcm hin hin2 hin3
    replace hcm := Aside0.mk hcm
    rw [aeL]
    simp only []
    by_cases hA : N0 ≤ b0
    · have hg : gi (L.drop off) = ⟨0, 0, 0, -1, 3⟩ := by
        unfold gi; rw [if_pos (by omega)]
      rw [hg, if_neg (by simp), if_pos (by simp)]
      refine ⟨fun h => by omega, fun h h4 => ?_⟩
      cases v with
      | zero => exact .inr ⟨_, rfl, by unfold clOf; simp, fun h => by unfold clOf at h; simp at h⟩
      | succ v => exact .inl rfl
    · have hbm2 : bl (L.drop off) = b0 := by omega
      have hd0 : (L.drop off).drop b0 = (T.drop (a0 + b0)).take (N0 - b0) := by
        have := at_drop hy b0
        rwa [← List.drop_drop, List.drop_drop (l := T)] at this
      by_cases hB : j ≤ N0 - b0
      · have hdl : dl (T.drop (a0 + b0 + j)) := by
          rw [← List.drop_drop]
          rcases hc.out with ⟨_, h1, h2, _⟩ | ⟨z, b2, k2, _, _, h1, h2, _⟩
          · exact dl_at (.inl h1) h2
          · exact dl_at (.inr (.inr h1)) h2
        obtain ⟨kd, ns, kss, hp0, hg0, h41, h42⟩ := gt_val hv hdl
        have hg1 := gt_moved hd0 (by omega) hB hg0
        have hg2 := gi_val hbm2 (by omega) hg1
        have hpk : p0.kd = kd := by rw [hp0]; rfl
        have hcl := cl_val (off := off) (p := p0) hg2 hpk (by omega) (fun h => (h41 h).2)
        have hen : (gi (L.drop off)).en = ((b0 + j : Nat) : Int) := by rw [hg2]; split <;> rfl
        have her : (gi (L.drop off)).er = 0 := by rw [hg2]; split <;> rfl
        rw [hen, her, if_neg (by omega), if_neg (by simp), Int.toNat_natCast, hcl]
        have hyp : L.drop (off + (b0 + j)) = (T.drop (a0 + b0 + j)).take (N0 - b0 - j) := by
          have := at_drop hd0 j
          rwa [List.drop_drop, List.drop_drop] at this
        cases v with
        | zero =>
          simp only [List.getElem?_cons_zero, Option.some.injEq] at hp
          subst hp
          refine ⟨fun h => ?_, fun h => by omega⟩
          rw [show p0.b - a0 + off = off + b0 by omega]
          split
          · rfl
          · split
            · rfl
            · split
              · rfl
              · rfl
        | succ v =>
          have hp' : ks'[v]? = some p := by simpa using hp
          rcases hc.out with ⟨rfl, _⟩ | ⟨z, b2, k2, hz, hb2, h1, h2, h3, h4⟩
          · simp at hp'
          · rw [List.drop_drop] at h1 h2 h3 hz hb2
            obtain ⟨β, hβ⟩ : ∃ β, β = bl (T.drop (a0 + b0 + j)) := ⟨_, rfl⟩
            rw [← hβ] at h1 h2 hz
            have hbq : bl (L.drop (off + (b0 + j))) = min β (N0 - b0 - j) := by rw [hyp, bl_take, hβ]
            obtain ⟨i1, i2, i3⟩ := E_kid _ _ _ _ v p (Nat.le_refl _) h3 hp'
            have hlo1 := i1.lo
            rw [List.length_drop] at h2
            have hlq := at_len hyp
            rw [List.length_drop] at hlq
            by_cases hcut : N0 - b0 - j ≤ β
            · have hq : off + (b0 + j) + bl (L.drop (off + (b0 + j))) = L.length := by omega
              rw [if_pos hq]
              exact ⟨fun h => by omega, fun _ _ => .inl rfl⟩
            · have hbq2 : bl (L.drop (off + (b0 + j))) = β := by omega
              rw [hbq2, if_neg (by omega)]
              have hat := at_get (j := β) hyp (by omega)
              rw [getD_drop] at hat
              rw [getD_drop, ← Nat.add_assoc] at h1
              rw [h1] at hat
              rw [hat, if_neg (by decide), if_neg (by simp)]
              have ho2 : off + (b0 + j) + β + 1 = off + b0 + z := by omega
              have hy2 : L.drop (off + (b0 + j) + β + 1) = (T.drop (a0 + b0 + z)).take (N0 - b0 - z) := by
                have := at_drop hyp (β + 1)
                rw [List.drop_drop] at this
                rw [show off + (b0 + j) + β + 1 = off + (b0 + j) + (β + 1) by omega, this, show a0 + b0 + j + (β + 1) = a0 + b0 + z by omega, show N0 - b0 - j - (β + 1) = N0 - b0 - z by omega]
              have hb2' : bl (T.drop (a0 + b0 + z)) = b2 := hb2.symm
              have ih := calls_of f (off + (b0 + j) + β + 1) (a0 + b0 + z) (N0 - b0 - z) k2 ks' v p hy2 (by omega) (by omega) (.inr ⟨by omega, by rw [Nat.add_sub_cancel]; exact hat⟩) (by rw [hb2', Nat.add_assoc]; exact h3) hp'
              constructor
              · intro h
                rw [List.getElem?_cons_succ, ih.1 (by omega)]
                congr 2; omega
              · intro h h4
                rw [List.getElem?_cons_succ]
                exact ih.2 (by omega) h4
      · cases v with
        | zero =>
          simp only [List.getElem?_cons_zero, Option.some.injEq] at hp
          subst hp
          refine ⟨fun h => by omega, fun h h4 => ?_⟩
          obtain ⟨kd, b, e, ns, kss⟩ := p0
          obtain ⟨c1, c2, c3⟩ := gt_cut hv hd0 (by omega) (by omega) h4
          have hg : gi (L.drop off) = ⟨(gt (L.drop off) b0).kind, 0, 0, (b0 : Int), (gt (L.drop off) b0).er⟩ := by
            unfold gi; rw [hbm2, if_neg (by omega), if_neg c1]
          rw [hg]
          simp only []
          by_cases hb00 : (b0 : Int) = 0
          · rw [if_pos hb00]; exact .inl rfl
          · rw [if_neg hb00, if_pos c1]
            refine .inr ⟨_, rfl, ?_⟩
            unfold clOf
            simp only []
            rw [if_neg c1]
            refine ⟨c1, fun hk1 => ?_⟩
            simp only [] at hk1
            obtain ⟨c4, c5, c6⟩ := c3 (jk_one.1 (c2.symm.trans hk1))
            rw [List.drop_drop] at c5
            rw [getD_drop] at c6
            rcases hcm.out with hcm | ⟨hcm, h44⟩
            · omega
            · have hbl : ∀ i, i < b0 → isBl (L.getD (off + i) 0) = true := fun i hi => by
                have h1 := at_get (j := i) hy (by omega)
                rw [h1]
                refine bl_mem _ (List.mem_take_iff_getElem.2 ⟨i, by rw [← hb0e]; omega, ?_⟩)
                simp [List.getD_eq_getElem?_getD, List.getElem?_eq_getElem (show i < (T.drop a0).length by omega)]
              refine ⟨off + b0, by simp, by omega, by omega, rfl, rfl, ?_, ?_, c6, c5⟩
              · have := hbl (b0 - 1) (by omega)
                rwa [show off + (b0 - 1) = off + b0 - 1 by omega] at this
              · by_cases hb1 : b0 = 1
                · right
                  rw [show off + b0 - 2 = off - 1 by omega]; exact h44
                · left
                  have := hbl (b0 - 2) (by omega)
                  rwa [show off + (b0 - 2) = off + b0 - 2 by omega] at this
        | succ v =>
          have hp' : ks'[v]? = some p := by simpa using hp
          have hfar : a0 + N0 < p.b := by
            rcases hc.out with ⟨rfl, _⟩ | ⟨z, b2, k2, hz, hb2, h1, h2, h3, h4⟩
            · simp at hp'
            · rw [List.drop_drop] at h3
              obtain ⟨i1, i2, i3⟩ := E_kid _ _ _ _ v p (Nat.le_refl _) h3 hp'
              have hlo1 := i1.lo
              omega
          refine ⟨fun h => by omega, fun h h4 => .inl ?_⟩
          by_cases he0 : (gi (L.drop off)).en = 0
          · rw [if_pos he0]; rfl
          · rw [if_neg he0]
            by_cases her : (gi (L.drop off)).er ≠ 0
            · rw [if_pos her]; rfl
            · rw [if_neg her]
              have hpart := gt_part hv hd0 (by omega) (by omega)
              have hgi : (gi (L.drop off)).en = ((b0 + (N0 - b0) : Nat) : Int) := by
                rcases hpart with h1 | ⟨h1, h2, h3⟩
                · exfalso
                  apply her
                  unfold gi; rw [hbm2, if_neg (by omega), if_neg h1]; exact h1
                · unfold gi
                  rw [hbm2, if_neg (by omega), if_pos h1, if_neg h3, h2]
              rw [hgi, Int.toNat_natCast]
              have hq : off + (b0 + (N0 - b0)) + bl (L.drop (off + (b0 + (N0 - b0)))) = L.length := by
                rw [List.drop_eq_nil_of_le (by omega)]
                simp [bl]; omega
              rw [if_pos hq]; rfl
theorem aeA_of {T L : List Int} {a k b e N : Nat} {ns : List (Nat × Nat)} {ks : List Pl} {v : Nat} {p : Pl} (hv : V a (T.drop a) = some (.mk 5 b e ns ks, k)) (hy : L = (T.drop a).take N) (hN : 1 ≤ N) (hp : ks[v]? = some p) :
    (p.e ≤ a + N → (aeA L)[v]? = some (clP (p.b - a) p)) ∧ (a + N < p.e → 4 ≤ p.kd → (aeA L)[v]? = none ∨ ∃ c, (aeA L)[v]? = some c ∧ Bad1 L c) := by
  obtain ⟨_, h5, _⟩ := kids_of hv
  obtain ⟨h91, hk⟩ := h5 rfl
  rcases hk with ⟨rfl, _⟩ | ⟨k', hE, rfl⟩
  · simp at hp
  · obtain ⟨hin, hin2, hin3⟩ := E_kid _ _ _ _ v p (Nat.le_refl _) hE hp
    have hvl := V_le hv
    rw [List.length_drop] at hvl
    have hlo := hin.lo
    have hlt := hin.lt
    have hy0 : L.drop 0 = (T.drop a).take N := by rw [List.drop_zero, hy]
    have hlen := at_len hy0
    rw [List.length_drop] at hlen
    have hL0 : L.getD 0 0 = 91 := by
      have := at_get (j := 0) hy0 (by omega)
      rw [getD_drop] at this
      rw [Nat.zero_add] at this
      rw [this]; exact h91
    have hLc := drop_cons' L 0 (by omega)
    rw [List.drop_zero, hL0] at hLc
    have hb00 : bl L = 0 := by rw [hLc]; exact bl_zero rfl
    have hy1 : L.drop 1 = (T.drop (a + 1)).take (N - 1) := by
      have := at_drop hy0 1
      rw [List.drop_drop] at this
      rwa [Nat.zero_add] at this
    have hb1 : bl (L.drop 1) = min (bl (T.drop (a + 1))) (N - 1) := by rw [hy1, bl_take]
    have hble := bl_le (T.drop (a + 1))
    rw [List.length_drop] at hble
    obtain ⟨b1, hb1e⟩ : ∃ b, b = bl (T.drop (a + 1)) := ⟨_, rfl⟩
    rw [← hb1e] at hb1 hble hE hlo hin hin2 hin3
    unfold aeA aeW
    rw [if_neg (by rw [hLc]; simp), hb00, if_neg (by omega), hL0, if_neg (by simp)]
    simp only [Nat.zero_add]
    by_cases hcut : N - 1 ≤ b1
    · rw [if_pos (by omega)]
      exact ⟨fun h => by omega, fun _ _ => .inl rfl⟩
    · have hb1' : bl (L.drop 1) = b1 := by omega
      rw [hb1', if_neg (by omega)]
      obtain ⟨p0, j, ks', hv0, -, -⟩ := E_cases hE
      obtain ⟨n0, n93, _⟩ := V_nb hv0
      have hy2 : L.drop (1 + b1) = (T.drop (a + 1 + b1)).take (N - 1 - b1) := by
        have := at_drop hy1 b1
        rwa [List.drop_drop] at this
      have hg := at_get (j := 0) hy2 (by omega)
      rw [Nat.add_zero] at hg
      rw [if_neg (by rw [hg]; exact n93)]
      simp only []
      have ih := calls_of (L.length + 1) (1 + b1) (a + 1 + b1) (N - 1 - b1) k' ks v p hy2 (by omega) (by omega) (.inl n0) (by rw [n0, Nat.add_zero]; exact hE) hp
      constructor
      · intro h
        rw [ih.1 (by omega)]
        congr 2; omega
      · intro h h4
        exact ih.2 (by omega) h4
/-! ### the search -/
def Good (ys : List Int) (m a : Nat) (q : Pl) (s : Int) : Prop := ∃ r : Nat, s = r ∧ r + bl (ys.drop r) < ys.length ∧ r + bl (ys.drop r) + a = m + q.b
def BadS (ys : List Int) (s : Int) : Prop := s = -1 ∨ ∃ r : Nat, s = r ∧ r ≤ ys.length ∧ (r + bl (ys.drop r) = ys.length ∨ (r + bl (ys.drop r) < ys.length ∧ (gt ys (r + bl (ys.drop r))).er ≠ 0))
theorem Good.shift {ys : List Int} {m a j : Nat} {q : Pl} {s : Int} (h : Good ys (m + j) (a + j) q s) : Good ys m a q s := by
  obtain ⟨r, h1, h2, h3⟩ := h
  exact ⟨r, h1, h2, by omega⟩
theorem seek_kd {T : List Int} {p q : Pl} {K : List ByteArray} (h : seekP T p K = some q) (h4 : 4 ≤ q.kd) : 4 ≤ p.kd := by
  cases K with
  | nil => cases h; exact h4
  | cons key K =>
    rw [seekP] at h
    obtain ⟨kd, b, e, ns, ks⟩ := p
    show 4 ≤ kd
    rw [stepP_mk] at h
    by_cases h6 : kd = 6
    · omega
    · rw [if_neg h6] at h
      by_cases h5 : kd = 5
      · omega
      · rw [if_neg h5] at h; cases h
theorem drop_key {K : List ByteArray} {n : Nat} (h : n < K.length) : K.drop n = K.getD n ByteArray.empty :: K.drop (n + 1) := by
  rw [List.drop_eq_getElem_cons h]
  simp [List.getD_eq_getElem?_getD, h]
theorem nam_parts {T : List Int} {a q d : Nat} (h : nam (T.drop a) = some (q, d)) : T.getD a 0 = 34 ∧ ∃ j β, quo (T.drop (a + 1)) = some j ∧ q = 1 + j ∧ β = bl (T.drop (a + 1 + j)) ∧ T.getD (a + 1 + j + β) 0 = 58 ∧ a + 1 + j + β < T.length ∧ d = 1 + j + β + 1 + bl (T.drop (a + (1 + j + β + 1))) := by
  unfold nam at h
  by_cases h1 : tk 34 (T.drop a) = true
  · rw [if_pos h1, List.drop_drop] at h
    have h34 := getD_zero (tk_cons (l := T) (j := a) h1)
    cases hq : quo (T.drop (a + 1)) with
    | none => rw [hq] at h; cases h
    | some j =>
      rw [hq] at h
      simp only [List.drop_drop] at h
      by_cases h2 : tk 58 (T.drop (a + (1 + j + bl (T.drop (a + (1 + j)))))) = true
      · rw [if_pos h2] at h
        have hl := tk_len h2
        rw [List.length_drop] at hl
        have h58 := getD_zero (tk_cons (l := T) h2)
        simp only [Option.some.injEq, Prod.mk.injEq] at h
        obtain ⟨rfl, rfl⟩ := h
        refine ⟨h34, j, _, rfl, rfl, rfl, ?_, ?_, ?_⟩
        · rw [← h58]; congr 1; rw [Nat.add_assoc a 1 j]; omega
        · rw [Nat.add_assoc a 1 j]; omega
        · rw [Nat.add_assoc a 1 j]
      · rw [if_neg h2] at h; cases h
  · rw [if_neg h1] at h; cases h
def NoIx (K : List ByteArray) : Prop := ∀ key ∈ K, isIx key = false
theorem getD_mem {K : List ByteArray} {n : Nat} (h : n < K.length) : K.getD n ByteArray.empty ∈ K.drop n := by
  rw [drop_key h]; exact List.mem_cons_self ..
theorem noix_drop {K : List ByteArray} {n : Nat} (h : NoIx (K.drop n)) : NoIx (K.drop (n + 1)) := fun key hk => h key (by
  rw [← List.drop_drop] at hk
  exact List.mem_of_mem_drop hk)
theorem arr_found {T : List Int} (hT : T.length < 288230376151711744) {a k b e n N m i : Nat} {ns : List (Nat × Nat)} {ks : List Pl} {p q : Pl} {K : List ByteArray} {ys : List Int}
    (hv : V a (T.drop a) = some (.mk 5 b e ns ks, k)) (hn : n < K.length) (hi : bkt (K.getD n ByteArray.empty) = some i) (hp : ks[i]? = some p) (hq : seekP T p (K.drop (n + 1)) = some q) (hy : ys.drop m = (T.drop a).take N) (hm : m ≤ ys.length) (hN : 1 ≤ N)
    (IH : K.drop (n + 1) ≠ [] → ∀ ws : List Int, ws = (T.drop p.b).take (p.e - p.b) → Good ws 0 p.b q (skR sks (K.drop (n + 1)) ws 0 0 0 true)) :
    (q.e ≤ a + N → k ≤ N → Good ys m a q (skA sks K ys m (n : Int))) ∧ (a + N < q.e → 4 ≤ q.kd → BadS ys (skA sks K ys m (n : Int))) := by
  have hs : stepP T (.mk 5 b e ns ks) (K.getD n ByteArray.empty) = some p := by
    rw [stepP_mk]; rw [if_neg (by decide), if_pos rfl, hi]; exact hp
  obtain ⟨hin, hin2, hin3⟩ := step_in hv hs
  have hlo := hin.lo
  have hlt := hin.lt
  have hvl := V_le hv
  rw [List.length_drop] at hvl
  have hqi := seek_in (K.drop (n + 1)) p.b (p.e - p.b) p q hin.v (by rw [show p.b + (p.e - p.b) = p.e by omega]; exact hin.dl) hq
  have hqhi := hqi.hi
  have hqlo := hqi.lo
  have hqlt := hqi.lt
  have hiv : i < 288230376151711744 := by
    obtain ⟨_, h5, _⟩ := kids_of hv
    obtain ⟨_, hk⟩ := h5 rfl
    rcases hk with ⟨rfl, _⟩ | ⟨k', hE, rfl⟩
    · simp at hp
    · obtain ⟨i1, i2, i3⟩ := E_kid _ _ _ _ i p (Nat.le_refl _) hE hp
      have := i1.hi; omega
  have hkix := bkt_kix hi hiv
  have hlen := at_len hy
  rw [List.length_drop] at hlen
  obtain ⟨A1, A2⟩ := aeA_of hv hy hN hp
  have hdi : ∀ x j : Nat, p.b = a + x → p.e - p.b = j → k ≤ N → ((ys.drop m).drop x).take j = (T.drop p.b).take (p.e - p.b) := fun x j hx hj hk => by
    rw [hy, List.drop_take, List.drop_drop, ← hx, List.take_take, hj, Nat.min_eq_left (by omega)]
  unfold skA
  simp only [Int.toNat_natCast]
  rw [hkix]
  simp only []
  have hpick : ∀ cs : List Cl, pick cs (i : Int) = cs[i]? := fun cs => by
    unfold pick; rw [if_neg (by omega), Int.toNat_natCast]
  rw [hpick]
  constructor
  · intro h1 h2
    rw [A1 (by omega)]
    simp only []
    obtain ⟨x, hx⟩ : ∃ x, p.b = a + x := ⟨p.b - a, by omega⟩
    have hx2 : p.b - a = x := by omega
    rw [hx2]
    have hws := hdi x (p.e - p.b) hx rfl h2
    have fin : ∀ s : Int, s = (if sks (K.drop (n + 1)) ((T.drop p.b).take (p.e - p.b)) < 0 then -1 else (m : Int) + (x : Int) + sks (K.drop (n + 1)) ((T.drop p.b).take (p.e - p.b))) → Good ys m a q s := by
      intro s hs
      subst hs
      have hbx : ys.drop (m + x) = (T.drop p.b).take (N - x) := by
        have := at_drop hy x
        rwa [List.drop_drop, ← hx] at this
      by_cases hK : K.drop (n + 1) = []
      · rw [hK] at hq ⊢
        cases hq
        rw [sks_nil, if_neg (by omega)]
        obtain ⟨n0, _⟩ := V_nb hin.v
        have : bl (ys.drop (m + x)) = 0 := by rw [hbx, bl_take, n0]; simp
        exact ⟨m + x, by push_cast; omega, by rw [this]; omega, by rw [this]; omega⟩
      · obtain ⟨r, hr, hr2, hr3⟩ := IH hK _ rfl
        rw [sks_eq _ hK, hr, if_neg (by omega)]
        have hbr : bl (ys.drop (m + x + r)) = bl (((T.drop p.b).take (p.e - p.b)).drop r) := by
          have e1 := at_drop hbx r
          have e2 : ((T.drop p.b).take (p.e - p.b)).drop r = ((T.drop p.b).drop r).take (p.e - p.b - r) := List.drop_take ..
          rw [e2] at hr2 ⊢
          rw [List.length_take, List.length_drop] at hr2
          rw [e1]
          rw [bl_take] at hr2
          rw [bl_take, bl_take]
          omega
        rw [List.length_take, List.length_drop] at hr2
        refine ⟨m + x + r, by push_cast; omega, ?_, ?_⟩
        · rw [hbr]; omega
        · rw [hbr]; omega
    unfold clP
    by_cases h4 : p.kd = 4
    · rw [if_pos h4]
      simp only [if_true]
      have h2j : 2 ≤ p.e - p.b := by
        obtain ⟨kd', ns', ks', hp', _, h41, _⟩ := gt_val hin.v (by rw [show p.b + (p.e - p.b) = p.e by omega]; exact hin.dl)
        refine (h41 ?_).2
        rw [hp'] at h4; exact h4
      refine fin _ ?_
      have e1 : ((x : Int) + 2 - 2).toNat = x := by omega
      have e2 : x + (p.e - p.b) - 1 - (x + 1) + 2 = p.e - p.b := by omega
      rw [e1, e2, hws, show (m : Int) + ((x : Int) + 2 - 2) = (m : Int) + x by omega]
    · rw [if_neg h4]
      simp only []
      rw [if_neg (fun h => h4 (jk_one.1 h)), if_neg (by simp)]
      refine fin _ ?_
      rw [Nat.add_sub_cancel_left, hws]
  · intro h1 h4
    have A3 := A2 (by omega) (seek_kd hq h4)
    clear A1 A2
    rcases A3 with h | ⟨c, h, her, hk1⟩
    · rw [h]; exact .inl rfl
    · rw [h]
      simp only []
      by_cases hk : c.kind = 1
      · rw [if_pos hk]
        obtain ⟨t, ht1, ht2, ht3, hvb, hve, hb1, hb2, h34, hse⟩ := hk1 hk
        clear hk1
        rw [hvb, hve, ht1]
        have e1 : ((t : Int) - 2).toNat = t - 2 := by omega
        rw [e1]
        simp only [Nat.sub_self, Nat.zero_add]
        rw [List.length_drop] at ht3
        rw [getD_drop] at hb1 hb2 h34
        rw [List.drop_drop] at hse
        obtain ⟨u, rfl⟩ : ∃ u, t = u + 2 := ⟨t - 2, by omega⟩
        simp only [Nat.add_sub_cancel] at hb2 ⊢
        rw [show m + (u + 2 - 1) = m + u + 1 by omega] at hb1
        have hd0 : ys.drop (m + u) = ys.getD (m + u) 0 :: ys.getD (m + u + 1) 0 :: ys.getD (m + u + 2) 0 :: ys.drop (m + u + 3) := by
          rw [drop_cons' ys (m + u) (by omega), drop_cons' ys (m + u + 1) (by omega), drop_cons' ys (m + u + 2) (by omega)]
        have n0 : noS (ys.getD (m + u) 0) := by
          rcases hb2 with h | h
          · exact isBl_noS h
          · rw [h]; unfold noS; decide
        have n1 : noS (ys.getD (m + u + 1) 0) := isBl_noS hb1
        rw [List.drop_drop]
        by_cases hK : K.drop (n + 1) = []
        · rw [hK, sks_nil, if_neg (by omega)]
          refine .inr ⟨m + u, by push_cast; omega, by omega, ?_⟩
          rw [show m + (u + 2) = m + u + 2 by omega] at h34
          rcases hb2 with hb2 | hb2
          · have hbl : bl (ys.drop (m + u)) = 2 := by
              rw [hd0, bl_one hb2, bl_one hb1, h34, bl_zero (by rfl)]
            rw [hbl]
            by_cases he : m + u + 2 = ys.length
            · exact .inl he
            · refine .inr ⟨by omega, ?_⟩
              unfold gt
              rw [h34, if_pos rfl, show m + u + 2 + 1 = m + (u + 2 + 1) by omega, if_pos hse]
              simp
          · have hbl : bl (ys.drop (m + u)) = 0 := by rw [hd0, hb2]; exact bl_zero rfl
            rw [hbl]
            refine .inr ⟨by omega, ?_⟩
            unfold gt
            rw [Nat.add_zero, hb2]
            simp [isDg]
        · have hw : skR sks (K.drop (n + 1)) ((ys.drop (m + u)).take 2) 0 0 0 true = -1 := by
            have hl2 : ((ys.drop (m + u)).take 2).length = 2 := by rw [List.length_take, List.length_drop]; omega
            rw [sk_many 2 0 (by omega) ?_, skR_end (by omega)]
            intro y hy2
            rw [List.drop_zero, List.take_take, Nat.min_self, hd0] at hy2
            simp only [List.take_succ_cons, List.take_zero, List.mem_cons, List.not_mem_nil, or_false] at hy2
            rcases hy2 with rfl | rfl
            · exact n0
            · exact n1
          rw [sks_eq _ hK, hw, if_pos (by decide)]
          exact .inl rfl
      · rw [if_neg hk, if_pos her]
        exact .inl rfl
set_option maxHeartbeats 4000000 in
theorem find_all {T : List Int} (hT : T.length < 288230376151711744) : ∀ L : Nat,
    (∀ (a k : Nat) (p : Pl) (K : List ByteArray) (n : Nat) (q : Pl) (ys : List Int) (m N : Nat), (T.drop a).length ≤ L → V a (T.drop a) = some (p, k) → n < K.length → seekP T p (K.drop n) = some q → ys.drop m = (T.drop a).take N → m ≤ ys.length →
      (q.e ≤ a + N → (k ≤ N ∨ NoIx (K.drop n)) → Good ys m a q (skR sks K ys m (n : Int) (n : Int) true)) ∧ (a + N < q.e → 4 ≤ q.kd → BadS ys (skR sks K ys m (n : Int) (n : Int) true))) ∧
    (∀ (a k : Nat) (ns : List (Nat × Nat)) (ks : List Pl) (K : List ByteArray) (n t : Nat) (p q : Pl) (ys : List Int) (m N : Nat) (lm : Bool), (T.drop a).length ≤ L → M a (T.drop a) = some (ns, ks, k) → n < K.length →
      ns.findIdx? (fun s => nmv T s == some (bytesOf (K.getD n ByteArray.empty))) = some t → ks[t]? = some p → seekP T p (K.drop (n + 1)) = some q → ys.drop m = (T.drop a).take N → m ≤ ys.length →
      (q.e ≤ a + N → (k ≤ N ∨ NoIx (K.drop (n + 1))) → Good ys m a q (skR sks K ys m ((n : Int) + 1) (n : Int) lm)) ∧ (a + N < q.e → 4 ≤ q.kd → BadS ys (skR sks K ys m ((n : Int) + 1) (n : Int) lm))) := by
  intro L
  induction L with
  | zero =>
    constructor
    · intro a k p K n q ys m N hl hv
      have := V_le hv; omega
    · intro a k ns ks K n t p q ys m N lm hl hM
      obtain ⟨q0, d, p0, j, ns', ks', hn0, hv, _⟩ := M_cases hM
      have := nam_le hn0; omega
  | succ L ih =>
    obtain ⟨ihv, ihm⟩ := ih
    constructor
    · intro a k p K n q ys m N hl hv hn hq hy hm
      have hvl := V_le hv
      have hlen := at_len hy
      have hqi : a < q.b ∧ q.b < q.e ∧ q.e < a + k := by
        rw [drop_key hn, seekP] at hq
        cases hs : stepP T p (K.getD n ByteArray.empty) with
        | none => rw [hs] at hq; cases hq
        | some p1 =>
          rw [hs] at hq
          obtain ⟨hin, h1, h2⟩ := step_in hv hs
          have hlt := hin.lt
          have hqi := seek_in (K.drop (n + 1)) p1.b (p1.e - p1.b) p1 q hin.v (by rw [show p1.b + (p1.e - p1.b) = p1.e by omega]; exact hin.dl) hq
          exact ⟨by have := hqi.lo; omega, hqi.lt, by have := hqi.hi; omega⟩
      rcases Nat.eq_zero_or_pos N with hN | hN
      · have := at_nil hy hm hN
        rw [skR_end (by omega)]
        exact ⟨fun h => by omega, fun _ _ => .inl rfl⟩
      · obtain ⟨kd, b, e, ns, ks⟩ := p
        obtain ⟨h6, h5, _⟩ := kids_of hv
        rw [List.length_drop] at hl hvl hlen
        have hx : ys.getD m 0 = T.getD a 0 := by
          have := at_get (j := 0) hy (by omega)
          rwa [Nat.add_zero, getD_drop, Nat.add_zero] at this
        rw [drop_key hn, seekP] at hq
        have hq0 := hq
        rw [stepP_mk] at hq
        by_cases hk6 : kd = 6
        · rw [if_pos hk6] at hq
          obtain ⟨h123, hkids⟩ := h6 hk6
          clear h6 h5
          cases hf : ns.findIdx? (fun s => nmv T s == some (bytesOf (K.getD n ByteArray.empty))) with
          | none => rw [hf] at hq; cases hq
          | some t =>
            rw [hf] at hq
            simp only [] at hq
            cases hp1 : ks[t]? with
            | none => rw [hp1] at hq; cases hq
            | some p1 =>
              rw [hp1] at hq
              simp only [] at hq
              rcases hkids with ⟨rfl, _⟩ | ⟨k', hM, rfl⟩
              · simp at hp1
              · have hd1 : ys.drop (m + 1) = (T.drop (a + 1)).take (N - 1) := by have := at_drop hy 1; rwa [List.drop_drop] at this
                have hb1 : bl (ys.drop (m + 1)) = min (bl (T.drop (a + 1))) (N - 1) := by rw [hd1, bl_take]
                have hble := bl_le (T.drop (a + 1))
                rw [List.length_drop] at hble
                obtain ⟨b1, hb1e⟩ : ∃ b, b = bl (T.drop (a + 1)) := ⟨_, rfl⟩
                rw [← hb1e] at hb1 hble hM
                have hl1 := at_len hd1
                rw [List.length_drop] at hl1
                rw [sk_open (by omega) (by rw [hx, h123]) rfl, sk_blanks (m + 1) (by omega)]
                have hd2 : ys.drop (m + 1 + b1) = (T.drop (a + 1 + b1)).take (N - 1 - b1) := by
                  have := at_drop hd1 b1
                  rwa [List.drop_drop] at this
                obtain ⟨q0, d0, p0, j0, ns', ks', hn0, hv0, -⟩ := M_cases hM
                have hnl := nam_le hn0
                rw [List.length_drop] at hnl
                by_cases hcut : N - 1 ≤ b1
                · rw [skR_end (by omega)]
                  refine ⟨fun h => ?_, fun _ _ => .inl rfl⟩
                  exfalso
                  have hkid := M_kid _ _ _ _ _ t p1 (Nat.le_refl _) hM hp1
                  have hin := hkid.1
                  have hlt := hin.lt
                  have hlo := hin.lo
                  have hqi2 := seek_in (K.drop (n + 1)) p1.b (p1.e - p1.b) p1 q hin.v (by rw [show p1.b + (p1.e - p1.b) = p1.e by omega]; exact hin.dl) hq
                  have := hqi2.lo
                  have := hqi2.lt
                  omega
                · have hb1' : bl (ys.drop (m + 1)) = b1 := by omega
                  rw [hb1']
                  have h := ihm (a + 1 + b1) k' ns ks K n t p1 q ys (m + 1 + b1) (N - 1 - b1) true (by rw [List.length_drop]; omega) hM hn hf hp1 hq hd2 (by omega)
                  refine ⟨fun g1 g2 => ?_, fun g1 g2 => h.2 (by omega) g2⟩
                  have hg := h.1 (by omega) (by
                    rcases g2 with g2 | g2
                    · exact .inl (by omega)
                    · exact .inr (noix_drop g2))
                  exact Good.shift (j := 1 + b1) (by rw [← Nat.add_assoc, ← Nat.add_assoc]; exact hg)
        · rw [if_neg hk6] at hq
          by_cases hk5 : kd = 5
          · subst hk5
            rw [if_pos rfl] at hq
            cases hi : bkt (K.getD n ByteArray.empty) with
            | none => rw [hi] at hq; cases hq
            | some i =>
              rw [hi] at hq
              simp only [] at hq
              cases hp1 : ks[i]? with
              | none => rw [hp1] at hq; cases hq
              | some p1 =>
                rw [hp1] at hq
                simp only [] at hq
                obtain ⟨h91, -⟩ := h5 rfl
                clear h6 h5
                have hix := bkt_isIx hi
                have hs : stepP T (.mk 5 b e ns ks) (K.getD n ByteArray.empty) = some p1 := by
                  rw [stepP_mk]; rw [if_neg (by decide), if_pos rfl, hi]; exact hp1
                obtain ⟨hin, hin2, hin3⟩ := step_in hv hs
                have hlt := hin.lt
                have hxx : (91 : Int) = ys.getD m 0 := by rw [hx, h91]
                rw [sk_idx (by omega) hxx rfl rfl (by rw [Int.toNat_natCast]; exact hix)]
                have h := arr_found hT hv hn hi hp1 hq hy hm hN (fun hK ws hws => by
                  have hKl : 0 < (K.drop (n + 1)).length := List.length_pos_iff.2 hK
                  have h := (ihv p1.b (p1.e - p1.b) p1 (K.drop (n + 1)) 0 q ws 0 (p1.e - p1.b) (by rw [List.length_drop]; omega) hin.v hKl (by rw [List.drop_zero]; exact hq) (by rw [List.drop_zero]; exact hws) (Nat.zero_le _)).1
                  have hqi2 := seek_in (K.drop (n + 1)) p1.b (p1.e - p1.b) p1 q hin.v (by rw [show p1.b + (p1.e - p1.b) = p1.e by omega]; exact hin.dl) hq
                  exact h (by have := hqi2.hi; omega) (.inl (Nat.le_refl _)))
                refine ⟨fun g1 g2 => h.1 g1 ?_, h.2⟩
                rcases g2 with g2 | g2
                · exact g2
                · have := g2 _ (getD_mem hn)
                  rw [hix] at this; cases this
          · rw [if_neg hk5] at hq; cases hq
    · intro a k ns ks K n t p q ys m N lm hl hM hn hf hp hq hy hm
      obtain ⟨q0, d, p0, j, ns', ks', hn0, hv, rfl, rfl, hc⟩ := M_cases hM
      replace hc := Aside0.mk hc
      obtain ⟨h34, i, β, hquo, rfl, hβ, h58, hz0, hd⟩ := nam_parts hn0
      rw [List.drop_drop] at hv
      have hvl := V_le hv
      have hnl := nam_le hn0
      have hkid := M_kid _ _ _ _ _ t p (Nat.le_refl _) hM hp
      have hin := hkid.1
      have hlt := hin.lt
      have hlo := hin.lo
      have hqi := seek_in (K.drop (n + 1)) p.b (p.e - p.b) p q hin.v (by rw [show p.b + (p.e - p.b) = p.e by omega]; exact hin.dl) hq
      have hqlo := hqi.lo
      have hqlt := hqi.lt
      have hbe := V_be hv
      have hpb : a + d ≤ p.b := by
        cases t with
        | zero => simp only [List.getElem?_cons_zero, Option.some.injEq] at hp; subst hp; omega
        | succ t =>
          have hp' : ks'[t]? = some p := by simpa using hp
          rcases hc.out with ⟨_, rfl, _⟩ | ⟨z, b2, k2, hz, hb2, h1, h2, h3, h4⟩
          · simp at hp'
          · rw [List.drop_drop] at h3
            have := (M_kid _ _ _ _ _ t p (Nat.le_refl _) h3 hp').1.lo
            omega
      have hquo1 := quo_le _ _ (Nat.le_refl _) hquo
      have hlen := at_len hy
      rw [List.length_drop] at hl hvl hnl hlen hquo1
      obtain ⟨β2, hβ2⟩ : ∃ b, b = bl (T.drop (a + (1 + i + β + 1))) := ⟨_, rfl⟩
      rw [← hβ2] at hd
      rcases Nat.eq_zero_or_pos N with hN | hN
      · have := at_nil hy hm hN
        rw [skR_end (by omega)]
        exact ⟨fun h => by omega, fun _ _ => .inl rfl⟩
      have hx : ys.getD m 0 = T.getD a 0 := by
        have := at_get (j := 0) hy (by omega)
        rwa [Nat.add_zero, getD_drop, Nat.add_zero] at this
      have hxx : (34 : Int) = ys.getD m 0 := by rw [hx, h34]
      have hmy : m < ys.length := by omega
      have hd1 : ys.drop (m + 1) = (T.drop (a + 1)).take (N - 1) := by have := at_drop hy 1; rwa [List.drop_drop] at this
      by_cases hc1 : N - 1 < i
      · have hs := seAt_take_no (n := N - 1) (quo_at hquo) hc1
        rw [← hd1] at hs
        rw [sk_str0 hmy hxx rfl hs]
        exact ⟨fun h => by omega, fun _ _ => .inl rfl⟩
      have hs := seAt_take_ok (n := N - 1) (quo_at hquo) (by omega)
      rw [← hd1] at hs
      have hd2 : ys.drop (m + 1 + i) = (T.drop (a + 1 + i)).take (N - 1 - i) := by
        have := at_drop hd1 i
        rwa [List.drop_drop] at this
      have hbz : bl (ys.drop (m + 1 + i)) = min β (N - 1 - i) := by rw [hd2, bl_take, hβ]
      by_cases hc2 : N - 1 - i ≤ β
      · rw [sk_q_end hmy hxx rfl hs rfl (by omega)]
        exact ⟨fun h => by omega, fun _ _ => .inl rfl⟩
      have hbz2 : bl (ys.drop (m + 1 + i)) = β := by omega
      have hzl : m + 1 + i + β < ys.length := by omega
      have hz58 : ys.getD (m + 1 + i + β) 0 = 58 := by
        have := at_get (j := β) hd2 (by omega)
        rw [getD_drop] at this
        rw [this]; exact h58
      have hraw : (ys.drop (m + 1)).take (i - 1) = (T.drop (a + 1)).take (i - 1) := by rw [hd1, List.take_take, Nat.min_eq_left (by omega)]
      have hnm : nmv T (a, a + (1 + i)) = ue ((T.drop (a + 1)).take (i - 1)) := by
        unfold nmv
        simp only []
        rw [show a + (1 + i) - a - 2 = i - 1 by omega]
      obtain ⟨u, hu⟩ := quo_ue _ (Nat.le_refl _) hquo
      have hk : (if hasB ((T.drop (a + 1)).take (i - 1)) then ue ((ys.drop (m + 1)).take (i - 1)) else some ((ys.drop (m + 1)).take (i - 1))) = some u := by
        rw [hraw, ue_key _ rfl, hu]
      have hd3 : ys.drop (m + 1 + i + β + 1) = (T.drop (a + (1 + i + β + 1))).take (N - (1 + i + β + 1)) := by
        have := at_drop hy (1 + i + β + 1)
        rw [List.drop_drop] at this
        rw [show m + 1 + i + β + 1 = m + (1 + i + β + 1) by omega]; exact this
      have hb3 : bl (ys.drop (m + 1 + i + β + 1)) = min β2 (N - (1 + i + β + 1)) := by rw [hd3, bl_take, hβ2]
      have hd4 : ys.drop (m + d) = (T.drop (a + d)).take (N - d) := by
        have := at_drop hy d
        rwa [List.drop_drop] at this
      have hlv : ((n : Int) + 1 - 1).toNat = n ∧ ((n : Int) + 1).toNat - 1 = n := by omega
      rw [List.findIdx?_cons] at hf
      by_cases hku : u = bytesOf (K.getD n ByteArray.empty)
      · have h1 : (nmv T (a, a + (1 + i)) == some (bytesOf (K.getD n ByteArray.empty))) = true := by rw [hnm, hu, hku]; simp
        rw [if_pos h1] at hf
        cases hf
        simp only [List.getElem?_cons_zero, Option.some.injEq] at hp
        subst hp
        by_cases hlast : n + 1 = K.length
        · have hK : K.drop (n + 1) = [] := List.drop_eq_nil_of_le (by omega)
          rw [hK] at hq
          cases hq
          rw [sk_q_last hmy hxx rfl hs (z := m + 1 + i + β) (by rw [hbz2]) hzl hz58 (by omega) hk (by omega) (by rw [hlv.2]; exact hku) (by omega) (by omega)]
          constructor
          · intro g1 _
            refine ⟨m + 1 + i + β + 1, by push_cast; omega, ?_, ?_⟩
            · rw [hb3]; omega
            · rw [hb3]; omega
          · intro g1 g4
            refine .inr ⟨m + 1 + i + β + 1, by push_cast; omega, by omega, ?_⟩
            by_cases hc3 : N - (1 + i + β + 1) ≤ β2
            · left; rw [hb3]; omega
            · right
              have hmd : m + 1 + i + β + 1 + bl (ys.drop (m + 1 + i + β + 1)) = m + d := by rw [hb3]; omega
              rw [hmd]
              refine ⟨by omega, ?_⟩
              exact gt_cutp hv hd4 (by omega) (by omega) g4
        · rw [sk_q_next hmy hxx rfl hs (z := m + 1 + i + β) (by rw [hbz2]) hzl hz58 (by omega) hk (by omega) (by rw [hlv.2]; exact hku) (by omega) (by omega)]
          rw [sk_blanks (m + 1 + i + β + 1) (by omega)]
          by_cases hc3 : N - (1 + i + β + 1) ≤ β2
          · rw [skR_end (by rw [hb3]; omega)]
            exact ⟨fun h => by omega, fun _ _ => .inl rfl⟩
          · have hmd : m + 1 + i + β + 1 + bl (ys.drop (m + 1 + i + β + 1)) = m + d := by rw [hb3]; omega
            rw [hmd]
            have h := ihv (a + d) j p0 K (n + 1) q ys (m + d) (N - d) (by rw [List.length_drop]; omega) hv (by omega) hq hd4 (by omega)
            push_cast at h
            refine ⟨fun g1 g2 => Good.shift (h.1 (by omega) ?_), fun g1 g2 => h.2 (by omega) g2⟩
            rcases g2 with g2 | g2
            · left
              rcases hc.out with ⟨_, _, _, _, hk2⟩ | ⟨z, b2, k2, hz, hb2, _, _, _, hk2⟩ <;> omega
            · exact .inr g2
      · have h1 : (nmv T (a, a + (1 + i)) == some (bytesOf (K.getD n ByteArray.empty))) = false := by rw [hnm, hu]; simpa using hku
        rw [if_neg (by rw [h1]; decide)] at hf
        cases hf2 : ns'.findIdx? (fun s => nmv T s == some (bytesOf (K.getD n ByteArray.empty))) with
        | none => rw [hf2] at hf; cases hf
        | some t' =>
          rw [hf2] at hf
          simp only [Option.map_some, Option.some.injEq] at hf
          subst hf
          have hp' : ks'[t']? = some p := by simpa using hp
          rw [sk_q_other hmy hxx rfl hs (z := m + 1 + i + β) (by rw [hbz2]) hzl hz58 (by omega) hk (by omega) (by rw [hlv.2]; exact hku)]
          rw [sk_blanks (m + 1 + i + β + 1) (by omega)]
          rcases hc.out with ⟨_, rfl, _⟩ | ⟨z, b2, k2, hz, hb2, h144, h2, h3, h4⟩
          · simp at hp'
          · rw [List.drop_drop] at h3 h2 hz hb2 h144
            have hkid2 := (M_kid _ _ _ _ _ t' p (Nat.le_refl _) h3 hp').1
            have hlo2 := hkid2.lo
            rw [List.length_drop] at h2
            by_cases hc3 : N - (1 + i + β + 1) ≤ β2
            · rw [skR_end (by rw [hb3]; omega)]
              exact ⟨fun h => by omega, fun _ _ => .inl rfl⟩
            · have hmd : m + 1 + i + β + 1 + bl (ys.drop (m + 1 + i + β + 1)) = m + d := by rw [hb3]; omega
              rw [hmd]
              rw [getD_drop] at h144
              obtain ⟨γ, hγ⟩ : ∃ g, g = bl (T.drop (a + (d + j))) := ⟨_, rfl⟩
              rw [← hγ] at h2 h144 hz
              have ht58 : tk 58 ((T.drop (a + d)).drop (j + bl ((T.drop (a + d)).drop j))) = false := by
                rw [List.drop_drop, List.drop_drop, show a + d + j = a + (d + j) by omega, ← hγ, show a + d + (j + γ) = a + (d + j + γ) by omega, drop_cons' T _ (by omega), h144]
                rfl
              obtain ⟨hv1, hv2⟩ := sk_value (sub := sks) (K := K) (lv := (n : Int) + 1) (kl := (n : Int)) hv hd4 (by omega) (by omega) ht58
              by_cases hc4 : N - d < j
              · rw [hv2 hc4]
                exact ⟨fun h => by omega, fun _ _ => .inl rfl⟩
              · rw [hv1 (by omega), sk_blanks (m + d + j) (by omega)]
                have hd5 : ys.drop (m + d + j) = (T.drop (a + (d + j))).take (N - (d + j)) := by
                  have := at_drop hy (d + j)
                  rw [List.drop_drop] at this
                  rw [Nat.add_assoc]; exact this
                have hb5 : bl (ys.drop (m + d + j)) = min γ (N - (d + j)) := by rw [hd5, bl_take, hγ]
                by_cases hc5 : N - (d + j) ≤ γ
                · rw [skR_end (by rw [hb5]; omega)]
                  exact ⟨fun h => by omega, fun _ _ => .inl rfl⟩
                · have hb5' : bl (ys.drop (m + d + j)) = γ := by omega
                  rw [hb5']
                  have h44y : (44 : Int) = ys.getD (m + d + j + γ) 0 := by
                    have := at_get (j := γ) hd5 (by omega)
                    rw [getD_drop] at this
                    rw [this, show a + (d + j) + γ = a + (d + j + γ) by omega, h144]
                  rw [sk_white (by omega) h44y (by decide) (by decide) (by decide) (by decide) (by decide), sk_blanks (m + d + j + γ + 1) (by omega)]
                  have hd6 : ys.drop (m + d + j + γ + 1) = (T.drop (a + z)).take (N - z) := by
                    have := at_drop hy z
                    rw [List.drop_drop] at this
                    rw [show m + d + j + γ + 1 = m + z by omega]; exact this
                  have hb6 : bl (ys.drop (m + d + j + γ + 1)) = min b2 (N - z) := by rw [hd6, bl_take, hb2]
                  by_cases hc6 : N - z ≤ b2
                  · rw [skR_end (by rw [hb6]; omega)]
                    exact ⟨fun h => by omega, fun _ _ => .inl rfl⟩
                  · have hmz : m + d + j + γ + 1 + bl (ys.drop (m + d + j + γ + 1)) = m + (z + b2) := by rw [hb6]; omega
                    rw [hmz]
                    have hd7 : ys.drop (m + (z + b2)) = (T.drop (a + (z + b2))).take (N - (z + b2)) := by
                      have := at_drop hy (z + b2)
                      rwa [List.drop_drop] at this
                    have hb2le := bl_le (T.drop (a + z))
                    rw [List.length_drop, ← hb2] at hb2le
                    have h := ihm (a + (z + b2)) k2 ns' ks' K n t' p q ys (m + (z + b2)) (N - (z + b2)) false (by rw [List.length_drop]; omega) h3 hn hf2 hp' hq hd7 (by omega)
                    refine ⟨fun g1 g2 => Good.shift (h.1 (by omega) ?_), fun g1 g2 => h.2 (by omega) g2⟩
                    rcases g2 with g2 | g2
                    · exact .inl (by omega)
                    · exact .inr g2
/-- Keys in a JSON text, whole or cut off. -/
theorem find_top {T : List Int} {p q : Pl} {K : List ByteArray} {c : Nat} (hT : T.length < 288230376151711744) (hJ : J T = some p) (hq : seekP T p K = some q) (hc : c ≤ T.length) :
    InT T (bl T) (T.length - bl T) q ∧
    (q.e ≤ c → (c = T.length ∨ NoIx K) → ∃ r : Nat, sks K (T.take c) = r ∧ r + bl ((T.take c).drop r) = q.b ∧ q.b < c) ∧ (c < q.e → 4 ≤ q.kd → BadS (T.take c) (sks K (T.take c))) := by
  obtain ⟨hb, kd, k, ns, ks, rfl, _, _, _, hk, hv⟩ := J_gt hJ
  have hdl : dl (T.drop (bl T + k)) := by
    unfold J at hJ
    rw [hv] at hJ
    simp only [] at hJ
    by_cases he : bl T + k + bl (T.drop (bl T + k)) = T.length
    · cases hx : T.drop (bl T + k) with
      | nil => trivial
      | cons x l =>
        rw [hx] at he
        have hlen : (T.drop (bl T + k)).length = l.length + 1 := by rw [hx]; rfl
        rw [List.length_drop] at hlen
        refine .inr (.inr (.inr ?_))
        cases hc : isBl x with
        | true => rfl
        | false => rw [bl, hc] at he; simp at he; omega
    · rw [if_neg he] at hJ; cases hJ
  have hin := seek_in K (bl T) k _ q hv hdl hq
  have hlo := hin.lo
  have hlt := hin.lt
  have hhi := hin.hi
  refine ⟨⟨hin.v, hlo, hlt, by omega, hin.dl⟩, ?_⟩
  have hb0 : bl (T.take c) = min (bl T) c := bl_take T c
  have hlc : (T.take c).length = c := by rw [List.length_take]; omega
  by_cases hK : K = []
  · subst hK
    cases hq
    rw [sks_nil]
    have hbe : Pl.b (.mk kd (bl T) (bl T + k) ns ks) = bl T ∧ Pl.e (.mk kd (bl T) (bl T + k) ns ks) = bl T + k := ⟨rfl, rfl⟩
    constructor
    · intro g1 _
      exact ⟨0, rfl, by rw [List.drop_zero, hb0]; omega, by omega⟩
    · intro g1 g4
      refine .inr ⟨0, rfl, by omega, ?_⟩
      rw [List.drop_zero, Nat.zero_add, hb0, hlc]
      by_cases h0 : c ≤ bl T
      · left; omega
      · right
        rw [Nat.min_eq_left (by omega)]
        refine ⟨by omega, ?_⟩
        have hy : (T.take c).drop (bl T) = (T.drop (bl T)).take (c - bl T) := List.drop_take ..
        exact (gt_cut hv hy (by omega) (by omega) g4).1
  · have hKl : 0 < K.length := List.length_pos_iff.2 hK
    have hqs : bl T < q.b ∧ q.e < bl T + k := by
      rw [← List.drop_zero (l := K), drop_key hKl, seekP] at hq
      cases hs : stepP T (.mk kd (bl T) (bl T + k) ns ks) (K.getD 0 ByteArray.empty) with
      | none => rw [hs] at hq; cases hq
      | some p1 =>
        rw [hs] at hq
        obtain ⟨hin1, h1, h2⟩ := step_in hv hs
        have hlt1 := hin1.lt
        have hqi := seek_in (K.drop (0 + 1)) p1.b (p1.e - p1.b) p1 q hin1.v (by rw [show p1.b + (p1.e - p1.b) = p1.e by omega]; exact hin1.dl) hq
        exact ⟨by have := hqi.lo; omega, by have := hqi.hi; omega⟩
    rw [sks_eq _ hK, sk_blanks 0 (Nat.zero_le _), List.drop_zero, hb0, Nat.zero_add]
    by_cases h0 : c ≤ bl T
    · rw [skR_end (by omega)]
      exact ⟨fun h => by omega, fun _ _ => .inl rfl⟩
    · rw [Nat.min_eq_left (by omega)]
      have hy : (T.take c).drop (bl T) = (T.drop (bl T)).take (c - bl T) := List.drop_take ..
      have h := (find_all hT _).1 (bl T) k _ K 0 q (T.take c) (bl T) (c - bl T) (Nat.le_refl _) hv hKl (by rw [List.drop_zero]; exact hq) hy (by omega)
      constructor
      · intro g1 g2
        obtain ⟨r, hr, hr2, hr3⟩ := h.1 (by omega) (by
          rcases g2 with g2 | g2
          · exact .inl (by omega)
          · exact .inr (by rw [List.drop_zero]; exact g2))
        exact ⟨r, hr, by omega, by omega⟩
      · intro g1 g4
        exact h.2 (by omega) g4
end Go.Proofs.YtpahejmkidhhhaaDoor.G
end
