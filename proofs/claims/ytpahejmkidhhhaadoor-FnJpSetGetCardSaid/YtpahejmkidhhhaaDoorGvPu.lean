/- A JSON text in which one value is put in another's place (plain). -/
import Derived.Test.YtpahejmkidhhhaaDoorGvPf
import Derived.Test.YtpahejmkidhhhaaDoorGvPt
namespace Go.Proofs.YtpahejmkidhhhaaDoor.G
set_option linter.unusedVariables false
set_option linter.unusedSimpArgs false

theorem bl_agree {l l' : List Int} {X : Nat} (h : l'.take X = l.take X) (hb : bl l < X) : bl l' = bl l := by
  have h1 := bl_take l X
  have h2 := bl_take l' X
  rw [h] at h2
  omega
theorem take_drop {l l' : List Int} {X : Nat} (h : l'.take X = l.take X) (i : Nat) : (l'.drop i).take (X - i) = (l.drop i).take (X - i) := by
  rw [← List.drop_take, ← List.drop_take, h]
theorem getD_agree {l l' : List Int} {X i : Nat} (h : l'.take X = l.take X) (hi : i < X) : l'.getD i 0 = l.getD i 0 := by
  rw [← getD_take (xs := l') hi, ← getD_take (xs := l) hi, h]
theorem bl_pre : ∀ (X : Nat) {l : List Int}, X ≤ l.length → (∀ x ∈ l.take X, isBl x = true) → bl l = X + bl (l.drop X)
  | 0, l, _, _ => by simp
  | X + 1, [], h, _ => by simp at h
  | X + 1, c :: l, h, hx => by
    rw [bl, if_pos (hx c (by simp)), bl_pre X (by simpa using h) (fun x hh => hx x (by simp [hh])), List.drop_succ_cons]
    omega
theorem nam_same {l l' : List Int} {q d n : Nat} (h : nam l = some (q, d)) (hd : d < n) (hn : n ≤ l.length) (he : l'.take n = l.take n) : nam l' = some (q, d) := by
  rw [← List.take_append_drop n l', he]
  exact nam_app (nam_take h (Nat.le_of_lt hd)) (by rw [List.length_take]; omega)
theorem el_any {a a' : Nat} {l : List Int} {ks : List Pl} {k : Nat} (h : E a l = some (ks, k)) : ∃ ks', E a' l = some (ks', k) := by
  have h1 : el a l = some k := by unfold el; rw [h]; rfl
  have h2 := (ext_all l.length).2.1 a a' l [] k (Nat.le_refl _) h1
  rw [List.append_nil] at h2
  unfold el at h2
  cases he : E a' l with
  | none => rw [he] at h2; cases h2
  | some r => rw [he] at h2; obtain ⟨ks', k'⟩ := r; simp at h2; subst h2; exact ⟨ks', rfl⟩
theorem ml_any {a a' : Nat} {l : List Int} {ns : List (Nat × Nat)} {ks : List Pl} {k : Nat} (h : M a l = some (ns, ks, k)) : ∃ ns' ks', M a' l = some (ns', ks', k) := by
  have h1 : ml a l = some k := by unfold ml; rw [h]; rfl
  have h2 := (ext_all l.length).2.2 a a' l [] k (Nat.le_refl _) h1
  rw [List.append_nil] at h2
  unfold ml at h2
  cases he : M a' l with
  | none => rw [he] at h2; cases h2
  | some r => rw [he] at h2; obtain ⟨ns', ks', k'⟩ := r; simp at h2; subst h2; exact ⟨ns', ks', rfl⟩
/-- From place X on the one text has a value (and blanks) where the other one has bytes up to Y; behind the blanks they go on alike. -/
structure Pw (l' l : List Int) (X Y A β k1 : Nat) (p1 : Pl) : Prop where
  b : bl (l'.drop X) = β
  v : V (A + X + β) (l'.drop (X + β)) = some (p1, k1)
  r : l'.drop (X + β + k1 + bl (l'.drop (X + β + k1))) = l.drop (Y + bl (l.drop Y))
theorem Pw.drop {l' l : List Int} {X Y A β k1 z : Nat} {p1 : Pl} (h : Pw l' l X Y A β k1 p1) (hz : z ≤ X) (hzY : z ≤ Y) : Pw (l'.drop z) (l.drop z) (X - z) (Y - z) (A + z) β k1 p1 := by
  refine ⟨?_, ?_, ?_⟩
  · rw [List.drop_drop, show z + (X - z) = X by omega]; exact h.b
  · rw [List.drop_drop, show z + (X - z + β) = X + β by omega, show A + z + (X - z) + β = A + X + β by omega]; exact h.v
  · rw [List.drop_drop, List.drop_drop, List.drop_drop, List.drop_drop, show z + (X - z + β + k1) = X + β + k1 by omega, show z + (Y - z) = Y by omega, show z + (X - z + β + k1 + bl (l'.drop (X + β + k1))) = X + β + k1 + bl (l'.drop (X + β + k1)) by omega, show z + (Y - z + bl (l.drop Y)) = Y + bl (l.drop Y) by omega]
    exact h.r
theorem tk_getD {c : Int} {l : List Int} : tk c l = true ↔ ∃ r, l = c :: r := by
  cases l with
  | nil => simp [tk]
  | cons x l => simp [tk]
theorem drop_lenP {l : List Int} {j : Nat} {x : Int} (h : l.getD j 0 = x) (hl : j < l.length) : l.drop j = x :: l.drop (j + 1) := by rw [drop_cons' l j hl, h]
theorem E_mk {a j : Nat} {l : List Int} {p : Pl} (hv : V a l = some (p, j)) (h : l.getD (j + bl (l.drop j)) 0 = 93) (hl : j + bl (l.drop j) < l.length) : E a l = some ([p], j + bl (l.drop j) + 1) := by
  rw [E_eq, hv]
  simp only []
  rw [if_pos (tk_getD.2 ⟨_, drop_lenP h hl⟩)]
theorem E_mk2 {a j z k : Nat} {l : List Int} {p : Pl} {ks : List Pl} (hv : V a l = some (p, j)) (h : l.getD (j + bl (l.drop j)) 0 = 44) (hl : j + bl (l.drop j) < l.length) (hz : z = j + bl (l.drop j) + 1) (hE : E (a + (z + bl (l.drop z))) (l.drop (z + bl (l.drop z))) = some (ks, k)) : E a l = some (p :: ks, z + bl (l.drop z) + k) := by
  subst hz
  rw [E_eq, hv]
  simp only []
  have hd := drop_lenP h hl
  rw [if_neg (by rw [hd]; simp [tk]), if_pos (tk_getD.2 ⟨_, hd⟩), hE]
  rfl
theorem M_mk {a q d j : Nat} {l : List Int} {p : Pl} (hn : nam l = some (q, d)) (hv : V (a + d) (l.drop d) = some (p, j)) (h : l.getD (d + j + bl (l.drop (d + j))) 0 = 125) (hl : d + j + bl (l.drop (d + j)) < l.length) : M a l = some ([(a, a + q)], [p], d + j + bl (l.drop (d + j)) + 1) := by
  rw [M_eq, hn]
  simp only []
  rw [hv]
  simp only []
  rw [if_pos (tk_getD.2 ⟨_, drop_lenP h hl⟩)]
theorem M_mk2 {a q d j z k : Nat} {l : List Int} {p : Pl} {ns : List (Nat × Nat)} {ks : List Pl} (hn : nam l = some (q, d)) (hv : V (a + d) (l.drop d) = some (p, j)) (h : l.getD (d + j + bl (l.drop (d + j))) 0 = 44) (hl : d + j + bl (l.drop (d + j)) < l.length) (hz : z = d + j + bl (l.drop (d + j)) + 1) (hM : M (a + (z + bl (l.drop z))) (l.drop (z + bl (l.drop z))) = some (ns, ks, k)) : M a l = some ((a, a + q) :: ns, p :: ks, z + bl (l.drop z) + k) := by
  subst hz
  rw [M_eq, hn]
  simp only []
  rw [hv]
  simp only []
  have hd := drop_lenP h hl
  rw [if_neg (by rw [hd]; simp [tk]), if_pos (tk_getD.2 ⟨_, hd⟩), hM]
  rfl
theorem get_of_drop {l l' : List Int} {i i' : Nat} (h : l'.drop i' = l.drop i) : l'.getD i' 0 = l.getD i 0 := by
  have h1 := getD_drop l' i' 0
  have h2 := getD_drop l i 0
  rw [h, h2] at h1
  simpa using h1.symm
theorem lt_of_drop {l l' : List Int} {i i' : Nat} (h : l'.drop i' = l.drop i) (hi : i < l.length) : i' < l'.length := by
  have := congrArg List.length h
  rw [List.length_drop, List.length_drop] at this
  omega
theorem drop_of {l l' : List Int} {i i' : Nat} (h : l'.drop i' = l.drop i) (j : Nat) : l'.drop (i' + j) = l.drop (i + j) := by
  rw [← List.drop_drop, h, List.drop_drop]
set_option maxHeartbeats 1000000 in
theorem E_put : ∀ (t : Nat) (l l' : List Int) (a k : Nat) (ks : List Pl) (p p1 : Pl) (X Y β k1 : Nat),
    E (a + bl l) (l.drop (bl l)) = some (ks, k) → ks[t]? = some p → p.b = a + X → p.e = a + Y → l'.take X = l.take X → Pw l' l X Y a β k1 p1 → X ≤ l'.length →
    ∃ ks' k', E (a + bl l') (l'.drop (bl l')) = some (ks', k') ∧ ks'[t]? = some p1 ∧ l'.drop (bl l' + k') = l.drop (bl l + k)
  | 0, l, l', a, k, ks, p, p1, X, Y, β, k1, hE, hp, hX, hY, hpre, hW, hXl => by
    obtain ⟨p0, j, ks', hv, rfl, hc⟩ := E_cases hE
    simp only [List.getElem?_cons_zero, Option.some.injEq] at hp
    subst hp
    have hbe := V_be hv
    have hXb : X = bl l := by omega
    have hYb : bl l + j = Y := by omega
    have hbl' : bl l' = X + β := by
      have := bl_pre X hXl (fun x hx => by rw [hpre, hXb] at hx; exact bl_mem x hx)
      rw [this, hW.b]
    have hr := hW.r
    have hv1 : V (a + (X + β)) (l'.drop (X + β)) = some (p1, k1) := by rw [← Nat.add_assoc]; exact hW.v
    simp only [List.drop_drop, List.length_drop, getD_drop] at hc
    rw [hYb] at hc
    rw [hbl']
    rcases hc with ⟨_, h1, h2, h3⟩ | ⟨z, b2, k2, hz, hb2, h1, h2, h3, h4⟩
    · rw [← Nat.add_assoc, hYb] at h1
      have hi : Y + bl (l.drop Y) < l.length := by omega
      have g1 := (get_of_drop hr).trans h1
      have g2 := lt_of_drop hr hi
      refine ⟨[p1], _, E_mk hv1 ?_ ?_, rfl, ?_⟩
      · rw [getD_drop, List.drop_drop, ← Nat.add_assoc]; exact g1
      · rw [List.length_drop, List.drop_drop]; omega
      · have := drop_of hr 1
        rw [List.drop_drop, show X + β + (k1 + bl (l'.drop (X + β + k1)) + 1) = X + β + k1 + bl (l'.drop (X + β + k1)) + 1 by omega, this, h3]
        congr 1; omega
    · rw [← Nat.add_assoc, hYb] at h1
      have hi : Y + bl (l.drop Y) < l.length := by omega
      have g1 := (get_of_drop hr).trans h1
      have g2 := lt_of_drop hr hi
      have hz2 : bl l + z = Y + bl (l.drop Y) + 1 := by omega
      have hd1 := drop_of hr 1
      rw [← hz2] at hd1
      obtain ⟨ks2, hE2⟩ := el_any (a' := a + (X + β) + (k1 + bl (l'.drop (X + β + k1)) + 1 + b2)) h3
      refine ⟨p1 :: ks2, _, E_mk2 hv1 ?_ ?_ rfl ?_ (k := k2), rfl, ?_⟩
      · rw [getD_drop, List.drop_drop, ← Nat.add_assoc]; exact g1
      · rw [List.length_drop, List.drop_drop]; omega
      · rw [List.drop_drop, List.drop_drop, List.drop_drop, show X + β + (k1 + bl (l'.drop (X + β + k1)) + 1) = X + β + k1 + bl (l'.drop (X + β + k1)) + 1 by omega, hd1, ← hb2, show X + β + (k1 + bl (l'.drop (X + β + k1)) + 1 + b2) = X + β + k1 + bl (l'.drop (X + β + k1)) + 1 + b2 by omega, drop_of hd1 b2, Nat.add_assoc (bl l)]
        exact hE2
      · rw [List.drop_drop, List.drop_drop, show X + β + (k1 + bl (l'.drop (X + β + k1)) + 1) = X + β + k1 + bl (l'.drop (X + β + k1)) + 1 by omega, hd1, ← hb2, show X + β + (k1 + bl (l'.drop (X + β + k1)) + 1 + b2 + k2) = X + β + k1 + bl (l'.drop (X + β + k1)) + 1 + (b2 + k2) by omega, drop_of hd1 (b2 + k2), h4]
        congr 1; omega
  | t + 1, l, l', a, k, ks, p, p1, X, Y, β, k1, hE, hp, hX, hY, hpre, hW, hXl => by
    obtain ⟨p0, j, ks', hv, rfl, hc⟩ := E_cases hE
    have hp' : ks'[t]? = some p := by simpa using hp
    have hj := V_le hv
    simp only [List.drop_drop, List.length_drop, getD_drop] at hc hj
    rcases hc with ⟨rfl, _⟩ | ⟨z, b2, k2, hz, hb2, h1, h2, h3, h4⟩
    · simp at hp'
    · have hlo : a + bl l + (z + b2) ≤ p.b := by
        have h3' := h3
        rw [← List.drop_drop] at h3'
        have hk := E_kid (T := (List.replicate (a + bl l + (z + b2)) 0) ++ l.drop (bl l + (z + b2))) _ (a + bl l + (z + b2)) k2 ks' t p (Nat.le_refl _) (by rw [List.drop_left' (by simp)]; exact h3) hp'
        exact hk.1.lo
      have hXz : bl l + (z + b2) ≤ X := by omega
      have hYz : X < Y := by
        have hk := E_kid (T := (List.replicate (a + bl l + (z + b2)) 0) ++ l.drop (bl l + (z + b2))) _ (a + bl l + (z + b2)) k2 ks' t p (Nat.le_refl _) (by rw [List.drop_left' (by simp)]; exact h3) hp'
        have := hk.1.lt
        omega
      have hb' : bl l' = bl l := bl_agree hpre (by omega)
      have hpl : X ≤ l.length := by
        have := congrArg List.length hpre
        rw [List.length_take, List.length_take] at this
        omega
      have hv' : V (a + bl l) (l'.drop (bl l)) = some (p0, j) := V_same (n := X - bl l) hv (by omega) (by rw [List.length_drop]; omega) (take_drop hpre _)
      have hbj : bl (l'.drop (bl l + j)) = bl (l.drop (bl l + j)) := bl_agree (take_drop hpre _) (by omega)
      have hg : l'.getD (bl l + (j + bl (l.drop (bl l + j)))) 0 = 44 := by rw [getD_agree hpre (by omega)]; exact h1
      have ih := E_put t (l.drop (bl l + z)) (l'.drop (bl l + z)) (a + (bl l + z)) k2 ks' p p1 (X - (bl l + z)) (Y - (bl l + z)) β k1
        (by rw [List.drop_drop, ← hb2]
            have e1 : a + (bl l + z) + b2 = a + bl l + (z + b2) := by omega
            have e2 : bl l + z + b2 = bl l + (z + b2) := by omega
            rw [e1, e2]; exact h3) hp' (by omega) (by omega) (take_drop hpre _) (hW.drop (by omega) (by omega)) (by rw [List.length_drop]; omega)
      obtain ⟨ks2, k2', i1, i2, i3⟩ := ih
      rw [List.drop_drop] at i1 i3
      rw [hb']
      refine ⟨p0 :: ks2, _, E_mk2 (z := z) (k := k2') hv' ?_ ?_ ?_ ?_, by simpa using i2, ?_⟩
      · rw [getD_drop, List.drop_drop, hbj]; exact hg
      · rw [List.length_drop, List.drop_drop, hbj]; omega
      · rw [List.drop_drop, hbj]; exact hz
      · rw [List.drop_drop, List.drop_drop, show a + bl l + (z + bl (l'.drop (bl l + z))) = a + (bl l + z) + bl (l'.drop (bl l + z)) by omega, show bl l + (z + bl (l'.drop (bl l + z))) = bl l + z + bl (l'.drop (bl l + z)) by omega]
        exact i1
      · rw [List.drop_drop, show bl l + (z + bl (l'.drop (bl l + z)) + k2') = bl l + z + (bl (l'.drop (bl l + z)) + k2') by omega, i3, List.drop_drop, ← hb2, h4]
        congr 1; omega
theorem nam_mk {l : List Int} {j β : Nat} (h34 : l.getD 0 0 = 34) (h0 : 0 < l.length) (hq : quo (l.drop 1) = some j) (hβ : β = bl (l.drop (1 + j))) (h58 : l.getD (1 + j + β) 0 = 58) (hl : 1 + j + β < l.length) : nam l = some (1 + j, 1 + j + β + 1 + bl (l.drop (1 + j + β + 1))) := by
  subst hβ
  unfold nam
  have hd0 := drop_lenP h34 h0
  rw [List.drop_zero] at hd0
  rw [if_pos (tk_getD.2 ⟨_, hd0⟩), hq]
  simp only []
  rw [if_pos (tk_getD.2 ⟨_, drop_lenP h58 hl⟩)]
set_option maxHeartbeats 2000000 in
theorem M_put : ∀ (t : Nat) (l l' : List Int) (a k : Nat) (ns : List (Nat × Nat)) (ks : List Pl) (p p1 : Pl) (X Y β k1 : Nat),
    M (a + bl l) (l.drop (bl l)) = some (ns, ks, k) → ks[t]? = some p → p.b = a + X → p.e = a + Y → l'.take X = l.take X → Pw l' l X Y a β k1 p1 → X ≤ l'.length →
    ∃ ns' ks' k', M (a + bl l') (l'.drop (bl l')) = some (ns', ks', k') ∧ ks'[t]? = some p1 ∧ ns'.take (t + 1) = ns.take (t + 1) ∧ (∀ s ∈ ns.take (t + 1), s.2 ≤ a + X) ∧ l'.drop (bl l' + k') = l.drop (bl l + k)
  | 0, l, l', a, k, ns, ks, p, p1, X, Y, β, k1, hM, hp, hX, hY, hpre, hW, hXl => by
    obtain ⟨q, d, p0, j, ns', ks', hn, hv, rfl, rfl, hc⟩ := M_cases hM
    simp only [List.getElem?_cons_zero, Option.some.injEq] at hp
    subst hp
    rw [List.drop_drop] at hv
    have hbe := V_be hv
    have hj := V_le hv
    have hXb : bl l + d = X := by omega
    have hYb : bl l + (d + j) = Y := by omega
    have hnl := nam_le hn
    rw [List.length_drop] at hnl hj
    have hbll : bl l < X := by omega
    have hb' : bl l' = bl l := bl_agree hpre hbll
    -- the name, its colon, and the blanks behind
    have hn2 : nam (l'.drop (bl l)) = some (q, d + β) := by
      obtain ⟨h34, i, γ, hq, rfl, hγ, h58, hzl, hd⟩ := nam_parts hn
      have e0 : (l'.drop (bl l)).getD 0 0 = 34 := by rw [getD_drop, Nat.add_zero, getD_agree hpre hbll]; exact h34
      have hpl : X ≤ l.length := by omega
      have e1 : quo ((l'.drop (bl l)).drop 1) = some i := by
        rw [List.drop_drop, ← List.take_append_drop (X - (bl l + 1)) (l'.drop (bl l + 1)), take_drop hpre]
        exact quo_app _ (Nat.le_refl _) (quo_take _ (Nat.le_refl _) hq (by omega))
      have e2 : γ = bl ((l'.drop (bl l)).drop (1 + i)) := by
        rw [List.drop_drop, ← Nat.add_assoc, hγ]
        exact (bl_agree (take_drop hpre _) (by omega)).symm
      have e3 : (l'.drop (bl l)).getD (1 + i + γ) 0 = 58 := by
        rw [getD_drop, show bl l + (1 + i + γ) = bl l + 1 + i + γ by omega, getD_agree hpre (by omega)]; exact h58
      have e4 := nam_mk e0 (by rw [List.length_drop]; omega) e1 e2 e3 (by rw [List.length_drop]; omega)
      rw [e4]
      have e5 : bl ((l'.drop (bl l)).drop (1 + i + γ + 1)) = bl (l.drop (bl l + (1 + i + γ + 1))) + β := by
        rw [List.drop_drop]
        have hsp : X - (bl l + (1 + i + γ + 1)) = bl (l.drop (bl l + (1 + i + γ + 1))) := by omega
        have := bl_pre (X - (bl l + (1 + i + γ + 1))) (l := l'.drop (bl l + (1 + i + γ + 1))) (by rw [List.length_drop]; omega) (fun x hx => by
          rw [take_drop hpre, hsp] at hx
          exact bl_mem x hx)
        rw [this, List.drop_drop, show bl l + (1 + i + γ + 1) + (X - (bl l + (1 + i + γ + 1))) = X by omega, hW.b, hsp]
      rw [e5]
      congr 2; omega
    have hr := hW.r
    have hv1 : V (a + bl l + (d + β)) ((l'.drop (bl l)).drop (d + β)) = some (p1, k1) := by
      rw [List.drop_drop, show bl l + (d + β) = X + β by omega, show a + bl l + (d + β) = a + X + β by omega]; exact hW.v
    simp only [List.drop_drop, List.length_drop, getD_drop] at hc
    rw [hYb] at hc
    rw [hb']
    have hnm : ∀ s ∈ ((a + bl l, a + bl l + q) :: ns').take (0 + 1), s.2 ≤ a + X := fun s hs => by
      simp at hs; subst hs; show a + bl l + q ≤ a + X; omega
    have hpos : bl l + (d + β + k1) = X + β + k1 := by omega
    rcases hc with ⟨rfl, rfl, h1, h2, h3⟩ | ⟨z, b2, k2, hz, hb2, h1, h2, h3, h4⟩
    · rw [← Nat.add_assoc, hYb] at h1
      have hi : Y + bl (l.drop Y) < l.length := by omega
      have g1 := (get_of_drop hr).trans h1
      have g2 := lt_of_drop hr hi
      refine ⟨_, _, _, M_mk hn2 hv1 ?_ ?_, rfl, rfl, hnm, ?_⟩
      · rw [getD_drop, List.drop_drop, ← Nat.add_assoc, hpos]; exact g1
      · rw [List.length_drop, List.drop_drop, hpos]; omega
      · have := drop_of hr 1
        rw [List.drop_drop, hpos, show bl l + (d + β + k1 + bl (l'.drop (X + β + k1)) + 1) = X + β + k1 + bl (l'.drop (X + β + k1)) + 1 by omega, this, h3]
        congr 1; omega
    · rw [← Nat.add_assoc, hYb] at h1
      have hi : Y + bl (l.drop Y) < l.length := by omega
      have g1 := (get_of_drop hr).trans h1
      have g2 := lt_of_drop hr hi
      have hz2 : bl l + z = Y + bl (l.drop Y) + 1 := by omega
      have hd1 := drop_of hr 1
      rw [← hz2] at hd1
      obtain ⟨ns2, ks2, hM2⟩ := ml_any (a' := a + bl l + (d + β + k1 + bl (l'.drop (X + β + k1)) + 1 + b2)) h3
      refine ⟨(a + bl l, a + bl l + q) :: ns2, p1 :: ks2, _, M_mk2 hn2 hv1 ?_ ?_ rfl ?_ (k := k2), rfl, rfl, hnm, ?_⟩
      · rw [getD_drop, List.drop_drop, ← Nat.add_assoc, hpos]; exact g1
      · rw [List.length_drop, List.drop_drop, hpos]; omega
      · rw [List.drop_drop, List.drop_drop, List.drop_drop, hpos, show bl l + (d + β + k1 + bl (l'.drop (X + β + k1)) + 1) = X + β + k1 + bl (l'.drop (X + β + k1)) + 1 by omega, hd1, ← hb2, show bl l + (d + β + k1 + bl (l'.drop (X + β + k1)) + 1 + b2) = X + β + k1 + bl (l'.drop (X + β + k1)) + 1 + b2 by omega, drop_of hd1 b2, Nat.add_assoc (bl l)]
        exact hM2
      · rw [List.drop_drop, List.drop_drop, hpos, show bl l + (d + β + k1 + bl (l'.drop (X + β + k1)) + 1) = X + β + k1 + bl (l'.drop (X + β + k1)) + 1 by omega, hd1, ← hb2, show bl l + (d + β + k1 + bl (l'.drop (X + β + k1)) + 1 + b2 + k2) = X + β + k1 + bl (l'.drop (X + β + k1)) + 1 + (b2 + k2) by omega, drop_of hd1 (b2 + k2), h4]
        congr 1; omega
  | t + 1, l, l', a, k, ns, ks, p, p1, X, Y, β, k1, hM, hp, hX, hY, hpre, hW, hXl => by
    obtain ⟨q, d, p0, j, ns', ks', hn, hv, rfl, rfl, hc⟩ := M_cases hM
    have hp' : ks'[t]? = some p := by simpa using hp
    rw [List.drop_drop] at hv
    have hj := V_le hv
    have hnl := nam_le hn
    simp only [List.drop_drop, List.length_drop, getD_drop] at hc hj hnl
    rcases hc with ⟨_, rfl, _⟩ | ⟨z, b2, k2, hz, hb2, h1, h2, h3, h4⟩
    · simp at hp'
    · have hk := M_kid (T := (List.replicate (a + bl l + (z + b2)) 0) ++ l.drop (bl l + (z + b2))) _ (a + bl l + (z + b2)) k2 ns' ks' t p (Nat.le_refl _) (by rw [List.drop_left' (by simp)]; exact h3) hp'
      have hlo := hk.1.lo
      have hlt := hk.1.lt
      have hXz : bl l + (z + b2) ≤ X := by omega
      have hYz : X < Y := by omega
      have hb' : bl l' = bl l := bl_agree hpre (by omega)
      have hpl : X ≤ l.length := by
        have := congrArg List.length hpre
        rw [List.length_take, List.length_take] at this
        omega
      have hn' : nam (l'.drop (bl l)) = some (q, d) := nam_same (n := X - bl l) hn (by omega) (by rw [List.length_drop]; omega) (take_drop hpre _)
      have hv' : V (a + bl l + d) ((l'.drop (bl l)).drop d) = some (p0, j) := by
        rw [List.drop_drop]
        exact V_same (n := X - (bl l + d)) hv (by omega) (by rw [List.length_drop]; omega) (take_drop hpre _)
      have hbj : bl (l'.drop (bl l + (d + j))) = bl (l.drop (bl l + (d + j))) := bl_agree (take_drop hpre _) (by omega)
      have hg : l'.getD (bl l + (d + j + bl (l.drop (bl l + (d + j))))) 0 = 44 := by rw [getD_agree hpre (by omega)]; exact h1
      have ih := M_put t (l.drop (bl l + z)) (l'.drop (bl l + z)) (a + (bl l + z)) k2 ns' ks' p p1 (X - (bl l + z)) (Y - (bl l + z)) β k1
        (by rw [List.drop_drop, ← hb2]
            have e1 : a + (bl l + z) + b2 = a + bl l + (z + b2) := by omega
            have e2 : bl l + z + b2 = bl l + (z + b2) := by omega
            rw [e1, e2]; exact h3) hp' (by omega) (by omega) (take_drop hpre _) (hW.drop (by omega) (by omega)) (by rw [List.length_drop]; omega)
      obtain ⟨ns2, ks2, k2', i1, i2, i4, i5, i3⟩ := ih
      rw [List.drop_drop] at i1 i3
      rw [hb']
      refine ⟨(a + bl l, a + bl l + q) :: ns2, p0 :: ks2, _, M_mk2 (z := z) (k := k2') (ns := ns2) hn' hv' ?_ ?_ ?_ ?_, by simpa using i2, ?_, ?_, ?_⟩
      · rw [getD_drop, List.drop_drop, hbj]; exact hg
      · rw [List.length_drop, List.drop_drop, hbj]; omega
      · rw [List.drop_drop, hbj]; exact hz
      · rw [List.drop_drop, List.drop_drop, show a + bl l + (z + bl (l'.drop (bl l + z))) = a + (bl l + z) + bl (l'.drop (bl l + z)) by omega, show bl l + (z + bl (l'.drop (bl l + z))) = bl l + z + bl (l'.drop (bl l + z)) by omega]
        exact i1
      · rw [List.take_succ_cons, List.take_succ_cons, i4]
      · intro s hs
        rw [List.take_succ_cons] at hs
        rcases List.mem_cons.1 hs with rfl | hs
        · show a + bl l + q ≤ a + X; omega
        · have := i5 s hs; omega
      · rw [List.drop_drop, show bl l + (z + bl (l'.drop (bl l + z)) + k2') = bl l + z + (bl (l'.drop (bl l + z)) + k2') by omega, i3, List.drop_drop, ← hb2, h4]
        congr 1; omega
/-! ### along keys -/
def kdOf : List Int → Nat
  | [] => 0
  | c :: l => if c = 123 then 6 else if c = 91 then 5 else if c = 34 then 4 else if c = 45 ∨ isDg c = true then 3 else if pre wnull (c :: l) then 0 else if pre wfalse (c :: l) then 1 else 2
theorem V_kd {a k : Nat} {l : List Int} {p : Pl} (h : V a l = some (p, k)) : p.kd = kdOf l := by
  rw [V_eq] at h
  match l, h with
  | [], h => cases h
  | c :: l, h =>
    rw [one] at h
    rw [kdOf]
    by_cases h1 : c = 123
    · rw [if_pos h1] at h ⊢
      cases ho : obj V (a + 1) l with
      | none => rw [ho] at h; cases h
      | some r => rw [ho] at h; cases h; rfl
    · rw [if_neg h1] at h ⊢
      by_cases h2 : c = 91
      · rw [if_pos h2] at h ⊢
        cases ho : lst V (a + 1) l with
        | none => rw [ho] at h; cases h
        | some r => rw [ho] at h; cases h; rfl
      · rw [if_neg h2] at h ⊢
        by_cases h3 : c = 34
        · rw [if_pos h3] at h ⊢
          cases ho : quo l with
          | none => rw [ho] at h; cases h
          | some r => rw [ho] at h; cases h; rfl
        · rw [if_neg h3] at h ⊢
          by_cases h4 : c = 45 ∨ isDg c = true
          · rw [if_pos h4] at h ⊢
            cases ho : num (c :: l) with
            | none => rw [ho] at h; cases h
            | some r => rw [ho] at h; cases h; rfl
          · rw [if_neg h4] at h ⊢
            by_cases h5 : pre wnull (c :: l) = true
            · rw [if_pos h5] at h ⊢; cases h; rfl
            · rw [if_neg h5] at h ⊢
              by_cases h6 : pre wfalse (c :: l) = true
              · rw [if_pos h6] at h ⊢; cases h; rfl
              · rw [if_neg h6] at h ⊢
                by_cases h7 : pre wtrue (c :: l) = true
                · rw [if_pos h7] at h; cases h; rfl
                · rw [if_neg h7] at h; cases h
theorem V_any {a a' k : Nat} {l : List Int} {p : Pl} (h : V a l = some (p, k)) : ∃ p', V a' l = some (p', k) ∧ p'.kd = p.kd := by
  have h1 : vl a l = some k := by unfold vl; rw [h]; rfl
  rw [vl_any a a'] at h1
  unfold vl at h1
  cases he : V a' l with
  | none => rw [he] at h1; cases h1
  | some r => rw [he] at h1; obtain ⟨p', k'⟩ := r; simp at h1; subst h1; exact ⟨p', rfl, by rw [V_kd he, V_kd h]⟩
theorem V_obj {a k : Nat} {l : List Int} {ns : List (Nat × Nat)} {ks : List Pl} (h : M (a + 1 + bl l) (l.drop (bl l)) = some (ns, ks, k)) : V a (123 :: l) = some (.mk 6 a (a + (1 + (bl l + k))) ns ks, 1 + (bl l + k)) := by
  have hn : tk 125 (l.drop (bl l)) = false := by
    rw [M_eq] at h
    cases hc : l.drop (bl l) with
    | nil => rfl
    | cons c r =>
      rw [hc] at h
      cases hn : nam (c :: r) with
      | none => rw [hn] at h; cases h
      | some x =>
        unfold nam at hn
        by_cases ht : tk 34 (c :: r) = true
        · simp [tk] at ht ⊢; omega
        · rw [if_neg ht] at hn; cases hn
  have hM : mbs V l.length (a + 1 + bl l) (l.drop (bl l)) = M (a + 1 + bl l) (l.drop (bl l)) := mbs_fuel (fun _ _ _ _ => V_le) _ _ _ _ (by rw [List.length_drop]; omega) (Nat.le_refl _)
  rw [V_eq, one, if_pos rfl]
  unfold obj
  rw [if_neg (by rw [hn]; decide), hM, h]
  rfl
theorem V_arr {a k : Nat} {l : List Int} {ks : List Pl} (h : E (a + 1 + bl l) (l.drop (bl l)) = some (ks, k)) : V a (91 :: l) = some (.mk 5 a (a + (1 + (bl l + k))) [] ks, 1 + (bl l + k)) := by
  have hn : tk 93 (l.drop (bl l)) = false := by
    obtain ⟨p, j, _, hv, _⟩ := E_cases h
    obtain ⟨_, h1, _⟩ := V_nb hv
    cases hc : l.drop (bl l) with
    | nil => rfl
    | cons c r => rw [hc] at h1; simpa [tk] using h1
  have hM : els V l.length (a + 1 + bl l) (l.drop (bl l)) = E (a + 1 + bl l) (l.drop (bl l)) := els_fuel (fun _ _ _ _ => V_le) _ _ _ _ (by rw [List.length_drop]; omega) (Nat.le_refl _)
  rw [V_eq, one, if_neg (by decide), if_pos rfl]
  unfold lst
  rw [if_neg (by rw [hn]; decide), hM, h]
  rfl
theorem find_pre {α : Type} {f g : α → Bool} : ∀ (t : Nat) (l l' : List α), l.findIdx? f = some t → l'.take (t + 1) = l.take (t + 1) → (∀ s ∈ l.take (t + 1), g s = f s) → l'.findIdx? g = some t
  | t, [], l', h, _, _ => by simp at h
  | t, x :: l, [], h, he, _ => by simp at he
  | t, x :: l, y :: l', h, he, hf => by
    rw [List.take_succ_cons, List.take_succ_cons] at he
    injection he with e1 e2
    subst e1
    have hx := hf y (by simp)
    rw [List.findIdx?_cons] at h ⊢
    rw [hx]
    by_cases hy : f y = true
    · rw [if_pos hy] at h ⊢; exact h
    · rw [if_neg hy] at h ⊢
      cases t with
      | zero => cases hh : l.findIdx? f with
        | none => rw [hh] at h; cases h
        | some i => rw [hh] at h; simp at h
      | succ t =>
        have h' : l.findIdx? f = some t := by
          cases hh : l.findIdx? f with
          | none => rw [hh] at h; cases h
          | some i => rw [hh] at h; simp at h; rw [h]
        rw [find_pre t l l' h' e2 (fun s hs => hf s (by rw [List.take_succ_cons]; exact List.mem_cons_of_mem _ hs))]
        rfl
theorem nmv_same {T T' : List Int} {X : Nat} {s : Nat × Nat} (h : T'.take X = T.take X) (hs : s.2 ≤ X) : nmv T' s = nmv T s := by
  unfold nmv
  congr 1
  by_cases h0 : s.2 - s.1 - 2 = 0
  · rw [h0]; simp
  · rw [List.take_drop, List.take_drop]
    have e : ∀ L : List Int, L.take (s.1 + 1 + (s.2 - s.1 - 2)) = (L.take X).take (s.1 + 1 + (s.2 - s.1 - 2)) := fun L => by
      rw [List.take_take, Nat.min_eq_left (by omega)]
    rw [e T', e T, h]
theorem pre_of {T T' : List Int} {X i : Nat} (h : T'.take X = T.take X) (hi : i ≤ X) : T'.take i = T.take i := by
  have e : ∀ L : List Int, L.take i = (L.take X).take i := fun L => by rw [List.take_take, Nat.min_eq_left hi]
  rw [e T', e T, h]
theorem V_put {T T' : List Int} {a k β k1 : Nat} {p q q1 : Pl} {key : ByteArray} (hv : V a (T.drop a) = some (p, k)) (hs : stepP T p key = some q) (hpre : T'.take q.b = T.take q.b) (hW : Pw T' T q.b q.e 0 β k1 q1) (hX : q.b ≤ T'.length) :
    ∃ p' k', V a (T'.drop a) = some (p', k') ∧ stepP T' p' key = some q1 ∧ T'.drop (a + k') = T.drop (a + k) ∧ a < q.b := by
  obtain ⟨hi, haq, _⟩ := step_in hv hs
  have hlt := hi.lt
  obtain ⟨kd, b, e, ns, ks⟩ := p
  obtain ⟨h6, h5, _⟩ := kids_of hv
  rw [stepP_mk] at hs
  have hga : T'.getD a 0 = T.getD a 0 := getD_agree hpre haq
  have hd' := drop_cons' T' a (by omega)
  have hW' := hW.drop (z := a + 1) (by omega) (by omega)
  rw [Nat.zero_add] at hW'
  have hp1 := take_drop hpre (a + 1)
  by_cases hk6 : kd = 6
  · rw [if_pos hk6] at hs
    obtain ⟨h123, h⟩ := h6 hk6
    split at hs
    · rename_i t ht
      rcases h with ⟨rfl, _⟩ | ⟨k', hM, rfl⟩
      · simp at hs
      · obtain ⟨ns2, ks2, k2, m1, m2, m3, m4, m5⟩ := M_put t (T.drop (a + 1)) (T'.drop (a + 1)) (a + 1) k' ns ks q q1 (q.b - (a + 1)) (q.e - (a + 1)) β k1 (by rw [List.drop_drop]; exact hM) hs (by omega) (by omega) hp1 hW' (by rw [List.length_drop]; omega)
        have hV := V_obj m1
        rw [← h123, ← hga, ← hd'] at hV
        refine ⟨_, _, hV, ?_, ?_, haq⟩
        · rw [stepP_mk, if_pos rfl, find_pre t ns ns2 ht m3 (fun s hs' => by rw [nmv_same hpre (by have := m4 s hs'; omega)])]
          exact m2
        · rw [List.drop_drop, List.drop_drop] at m5
          rw [show a + (1 + (bl (T'.drop (a + 1)) + k2)) = a + 1 + (bl (T'.drop (a + 1)) + k2) by omega, m5]
          congr 1; omega
    · cases hs
  · rw [if_neg hk6] at hs
    by_cases hk5 : kd = 5
    · rw [if_pos hk5] at hs
      obtain ⟨h91, h⟩ := h5 hk5
      split at hs
      · rename_i t ht
        rcases h with ⟨rfl, _⟩ | ⟨k', hM, rfl⟩
        · simp at hs
        · obtain ⟨ks2, k2, m1, m2, m5⟩ := E_put t (T.drop (a + 1)) (T'.drop (a + 1)) (a + 1) k' ks q q1 (q.b - (a + 1)) (q.e - (a + 1)) β k1 (by rw [List.drop_drop]; exact hM) hs (by omega) (by omega) hp1 hW' (by rw [List.length_drop]; omega)
          have hV := V_arr m1
          rw [← h91, ← hga, ← hd'] at hV
          refine ⟨_, _, hV, ?_, ?_, haq⟩
          · rw [stepP_mk, if_neg (by decide), if_pos rfl, ht]
            exact m2
          · rw [List.drop_drop, List.drop_drop] at m5
            rw [show a + (1 + (bl (T'.drop (a + 1)) + k2)) = a + 1 + (bl (T'.drop (a + 1)) + k2) by omega, m5]
            congr 1; omega
      · cases hs
    · rw [if_neg hk5] at hs; cases hs
theorem put_path {T T' : List Int} : ∀ (K : List ByteArray) (a k β k1 : Nat) (p q q1 : Pl), K ≠ [] → V a (T.drop a) = some (p, k) → seekP T p K = some q → T'.take q.b = T.take q.b → Pw T' T q.b q.e 0 β k1 q1 → q.b ≤ T'.length →
    ∃ p' k', V a (T'.drop a) = some (p', k') ∧ seekP T' p' K = some q1 ∧ T'.drop (a + k') = T.drop (a + k) ∧ a < q.b
  | [], _, _, _, _, _, _, _, h, _, _, _, _, _ => absurd rfl h
  | key :: K, a, k, β, k1, p, q, q1, _, hv, hs, hpre, hW, hX => by
    rw [seekP] at hs
    cases hm : stepP T p key with
    | none => rw [hm] at hs; cases hs
    | some m =>
      rw [hm] at hs
      simp only [] at hs
      match K, hs with
      | [], hs =>
        rw [seekP] at hs
        cases hs
        obtain ⟨p', k', a1, a2, a3, a4⟩ := V_put hv hm hpre hW hX
        exact ⟨p', k', a1, by rw [seekP, a2]; rfl, a3, a4⟩
      | key2 :: K, hs =>
        obtain ⟨hi, ham, _⟩ := step_in hv hm
        have hml := hi.lt
        obtain ⟨m', k', a1, a2, a3, a4⟩ := put_path (key2 :: K) m.b (m.e - m.b) β k1 m q q1 (by simp) hi.v hs hpre hW hX
        rw [show m.b + (m.e - m.b) = m.e by omega] at a3
        have hb0 := (V_nb a1).1
        have hW2 : Pw T' T m.b m.e 0 0 k' m' := ⟨hb0, by rw [Nat.zero_add]; exact a1, by rw [Nat.add_zero, ← List.drop_drop, a3, List.drop_drop]⟩
        obtain ⟨p', k2, b1, b2, b3, b4⟩ := V_put hv hm (pre_of hpre (by omega)) hW2 (by omega)
        exact ⟨p', k2, b1, by rw [seekP, b2]; exact a2, b3, by omega⟩
/-- A text put in the place that keys lead to is found there. -/
theorem put_top {T vs : List Int} {p q pv : Pl} {K : List ByteArray} (hT : T.length < 288230376151711744) (hJ : J T = some p) (hq : seekP T p K = some q) (hK : K ≠ []) (hv : J vs = some pv) :
    ∃ p' q', J (T.take q.b ++ vs ++ T.drop q.e) = some p' ∧ seekP (T.take q.b ++ vs ++ T.drop q.e) p' K = some q' ∧ q'.kd = pv.kd ∧ q'.b = q.b + pv.b ∧ q'.e = q.b + pv.e := by
  obtain ⟨hin, _, _⟩ := find_top (c := T.length) hT hJ hq (Nat.le_refl _)
  obtain ⟨hbT, kd, k, ns, ks, rfl, _, _, _, hk, hV⟩ := J_gt hJ
  obtain ⟨hbv, kdv, kv, nsv, ksv, rfl, _, _, _, hkv, hVv⟩ := J_gt hv
  have hlo := hin.lo
  have hlt := hin.lt
  have hhi := hin.hi
  have hdl := hin.dl
  generalize hXd : T.take q.b ++ vs ++ T.drop q.e = X
  have hql : q.b ≤ T.length := by omega
  have hlt' : (T.take q.b).length = q.b := by rw [List.length_take]; omega
  have hXl : X.length = q.b + vs.length + (T.length - q.e) := by
    rw [← hXd, List.length_append, List.length_append, hlt', List.length_drop]
  have hpre : X.take q.b = T.take q.b := by
    rw [← hXd, List.append_assoc, List.take_append_of_le_length (by omega), List.take_of_length_le (by omega)]
  have hXq : X.drop q.b = vs ++ T.drop q.e := by
    rw [← hXd, List.append_assoc, List.drop_left' hlt']
  have hXe : X.drop (q.b + vs.length) = T.drop q.e := by
    rw [← List.drop_drop, hXq, List.drop_left' rfl]
  have hbl : bl (X.drop q.b) = bl vs := by rw [hXq]; exact bl_app hbv
  have hVx : V (bl vs) (X.drop (q.b + bl vs)) = some (.mk kdv (bl vs) (bl vs + kv) nsv ksv, kv) := by
    rw [← List.drop_drop, hXq, drop_app (by omega)]
    exact V_ext hVv (by
      by_cases hh : kv < (vs.drop (bl vs)).length
      · exact .inl hh
      · exact .inr hdl)
  obtain ⟨q1, hq1, hkd⟩ := V_any (a' := 0 + q.b + bl vs) hVx
  have hrest : bl vs + kv + bl (vs.drop (bl vs + kv)) = vs.length := by
    unfold J at hv
    rw [hVv] at hv
    simp only [] at hv
    by_cases he : bl vs + kv + bl (vs.drop (bl vs + kv)) = vs.length
    · exact he
    · rw [if_neg he] at hv; cases hv
  have hXk : X.drop (q.b + bl vs + kv) = vs.drop (bl vs + kv) ++ T.drop q.e := by
    rw [show q.b + bl vs + kv = q.b + (bl vs + kv) by omega, ← List.drop_drop, hXq, drop_app (by omega)]
  have hblr : bl (X.drop (q.b + bl vs + kv)) = bl (vs.drop (bl vs + kv)) + bl (T.drop q.e) := by
    rw [hXk]
    have := bl_pre (bl (vs.drop (bl vs + kv))) (l := vs.drop (bl vs + kv) ++ T.drop q.e) (by rw [List.length_append, List.length_drop]; omega) (fun x hx => by
      rw [List.take_append_of_le_length (bl_le _)] at hx
      exact bl_mem x hx)
    have hnil : (vs.drop (bl vs + kv)).drop (bl (vs.drop (bl vs + kv))) = [] := List.drop_eq_nil_of_le (by rw [List.length_drop]; omega)
    rw [this, List.drop_append_of_le_length (bl_le _), hnil]
    rfl
  have hW : Pw X T q.b q.e 0 (bl vs) kv q1 := ⟨hbl, hq1, by
    rw [hblr, show q.b + bl vs + kv + (bl (vs.drop (bl vs + kv)) + bl (T.drop q.e)) = q.b + vs.length + bl (T.drop q.e) by omega, ← List.drop_drop, hXe, List.drop_drop]⟩
  obtain ⟨p', k', a1, a2, a3, a4⟩ := put_path K (bl T) k (bl vs) kv _ q q1 hK hV hq hpre hW (by omega)
  have hbX : bl X = bl T := bl_agree hpre a4
  have hbe := V_be hq1
  have hkl := V_le a1
  rw [List.length_drop] at hkl
  have hlen := congrArg List.length a3
  rw [List.length_drop, List.length_drop] at hlen
  refine ⟨p', q1, ?_, a2, hkd, ?_, ?_⟩
  · unfold J
    rw [hbX, a1]
    simp only []
    rw [if_pos]
    unfold J at hJ
    rw [hV] at hJ
    simp only [] at hJ
    by_cases he : bl T + k + bl (T.drop (bl T + k)) = T.length
    · rw [a3]; omega
    · rw [if_neg he] at hJ; cases hJ
  · rw [hbe.1]; show 0 + q.b + bl vs = q.b + bl vs; omega
  · rw [hbe.2]; show 0 + q.b + bl vs + kv = q.b + (bl vs + kv); omega
end Go.Proofs.YtpahejmkidhhhaaDoor.G
