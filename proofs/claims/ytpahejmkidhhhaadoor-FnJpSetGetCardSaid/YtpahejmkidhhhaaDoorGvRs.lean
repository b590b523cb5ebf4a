/- The reference's Index and Bracket; names of an object; Named. An object's names; the reference's Named. The reference's Step. -/
import Derived.Test.YtpahejmkidhhhaaDoorGvRb
import Derived.Test.YtpahejmkidhhhaaDoorGvPt
import Derived.Test.YtpahejmkidhhhaaDoorGrV
import Derived.Test.YtpahejmkidhhhaaDoorGrP
import Derived.Test.YtpahejmkidhhhaaDoorGvPf
import Derived.Test.YtpahejmkidhhhaaDoorGvN
section
namespace Go.Proofs.YtpahejmkidhhhaaDoor.G
set_option linter.unusedVariables false
set_option linter.unusedSimpArgs false
open Go.RowKit Go.Proofs.YtpahejmkidhhhaaDoorW.PrintWords

/-- A number, or none. -/
def OptI (o : Option Nat) (w : World) (e : Ending) (w' : World) : Prop := e = .returned (.tuple #[.int .i64 ((o.getD 0 : Nat) : Int), .bool o.isSome]) ∧ w = w'
theorem ixF_step (n : Nat) (c : Int) (l : List Int) (h : 48 ≤ c ∧ c ≤ 57) : ixF n (c :: l) = ixF (if n < 288230376151711744 then n * 10 + (c - 48).toNat else 4611686018427387904) l := by
  rw [ixF, if_neg (by omega)]
set_option maxHeartbeats 4000000 in
set_option maxRecDepth 100000 in
theorem index_calls (S : ByteArray) (w : World) (hs : S.size ≤ 140737488351232) : Calls Tryd.prog 48 #[.string S] w (OptI (ixOf (bytesOf S)) w) := by
  have hbl := bytesOf_length S
  by_cases h0 : S.size = 0
  · have hS : S = ⟨#[]⟩ := ByteArray.ext (Array.eq_empty_of_size_eq_zero (by simpa using h0))
    subst hS
    have HI : Aside0 (ixOf (bytesOf ⟨#[]⟩) = none) := ⟨rfl⟩
    clear hbl h0 hs
    go_enter Tryd.func48, Tryd.ntmps48
    go_wp2
    go_ret2
    exact ⟨by rw [HI.out]; rfl, rfl⟩
  · have hne : (S.toList == []) = false := by
      simp only [beq_eq_false_iff_ne, ne_eq]
      intro h
      have h2 : S.data.toList = [] := by rw [← ByteArray.toList_eq]; exact h
      have h3 : S.data.toList.length = 0 := by rw [h2]; rfl
      have h4 : S.data.toList.length = S.size := by simp
      omega
    have hpos : 0 < S.size := by omega
    have e0 := at_byte S 0 hpos
    by_cases h1 : 1 < S.size ∧ (bytesOf S).getD 0 0 = 48
    · have HI : Aside0 (ixOf (bytesOf S) = none) := ⟨by unfold ixOf; rw [if_pos (.inr ⟨by rw [hbl]; exact h1.1, h1.2⟩)]⟩
      have hd : decide ((1 : Int) < (S.size : Int)) = true := by simp; omega
      have b0 : ((S[0]'hpos).toNat : Int) = 48 := by omega
      clear hbl h0 e0 h1
      go_enter Tryd.func48, Tryd.ntmps48
      go_wp2
      go_ret2
      exact ⟨by rw [HI.out]; rfl, rfl⟩
    · have HI : Aside0 (ixOf (bytesOf S) = ixF 0 (bytesOf S)) := ⟨by
        unfold ixOf
        rw [if_neg]
        rw [hbl]
        rintro (h | h)
        · rw [h] at hbl; simp at hbl; omega
        · exact h1 h⟩
      have HT : Aside0 (∀ n, ixF n ((bytesOf S).drop S.size) = some n) := ⟨fun n => by rw [List.drop_eq_nil_of_le (by omega), ixF]⟩
      have HS : Aside0 (∀ (k : Nat) (hk : k < S.size), (bytesOf S).drop k = ((S[k]'hk).toNat : Int) :: (bytesOf S).drop (k + 1)) := ⟨fun k hk => by rw [drop_cons' _ k (by omega), at_byte S k hk]⟩
      have hgt : (1 < S.size ∧ ((S[0]'hpos).toNat : Int) ≠ 48) ∨ ¬ 1 < S.size := by omega
      have go : (decide ((1 : Int) < (S.size : Int)) = true ∧ (((S[0]'hpos).toNat : Int) == 48) = false) ∨ decide ((1 : Int) < (S.size : Int)) = false := by
        rcases hgt with ⟨g1, g2⟩ | g1
        · exact .inl ⟨by simp; omega, by simpa using g2⟩
        · exact .inr (by simp; omega)
      clear hbl h0 e0 h1 hgt
      rcases go with ⟨hd, b0⟩ | hd
      all_goals
        go_enter Tryd.func48, Tryd.ntmps48
        go_wp2_with fail
        go_loop [4, 5] (fun v4 v5 => ∃ k n : Nat, k ≤ S.size ∧ v4 = .int .i64 (n : Int) ∧ v5 = .int .i64 (k : Int) ∧ n ≤ 4611686018427387904 ∧ Aside0 (ixOf (bytesOf S) = ixF n ((bytesOf S).drop k))) (fun _ v5 => S.size - (intOf v5).toNat)
        case atStart => exact ⟨0, 0, Nat.zero_le _, rfl, rfl, by omega, ⟨by rw [HI.out, List.drop_zero]⟩⟩
        case round =>
          obtain ⟨k, n, hk, rfl, rfl, hn, HK⟩ := hrel
          by_cases hlt : k < S.size
          · have hst := HS.out k hlt
            have hcb : 0 ≤ ((S[k]'hlt).toNat : Int) ∧ ((S[k]'hlt).toNat : Int) < 256 := by have := (S[k]'hlt).toNat_lt; omega
            obtain ⟨c, hc⟩ : ∃ c, c = ((S[k]'hlt).toNat : Int) := ⟨_, rfl⟩
            rw [← hc] at hst hcb
            by_cases hdg : 48 ≤ c ∧ c ≤ 57
            · have hstep := ixF_step n c ((bytesOf S).drop (k + 1)) hdg
              have d1 : ¬ c < 48 := by omega
              have d2 : ¬ 57 < c := by omega
              by_cases hsm : n < 288230376151711744
              · have HK2 : Aside0 (ixOf (bytesOf S) = ixF (n * 10 + (c - 48).toNat) ((bytesOf S).drop (k + 1))) := ⟨by rw [HK.out, hst, hstep, if_pos hsm]⟩
                have hsm2 : (n : Int) < 288230376151711744 := by omega
                have hc2 : 0 ≤ c - 48 ∧ c - 48 ≤ 9 := by omega
                have HC := Aside0.mk hc2
                subst hc
                clear hst hstep HK
                go_wp2_with fail
                go_round
                case rel => exact ⟨k + 1, n * 10 + (((S[k]'hlt).toNat : Int) - 48).toNat, by omega, by have := HC.out; congr 1; push_cast; omega, by go_num, by have := HC.out; omega, HK2⟩
                case measure => simp [intOf]; omega
              · have HK2 : Aside0 (ixOf (bytesOf S) = ixF 4611686018427387904 ((bytesOf S).drop (k + 1))) := ⟨by rw [HK.out, hst, hstep, if_neg hsm]⟩
                have hsm2 : ¬ (n : Int) < 288230376151711744 := by omega
                subst hc
                clear hst hstep HK
                go_wp2_with fail
                go_round
                case rel => exact ⟨k + 1, 4611686018427387904, by omega, by go_num, by go_num, by omega, HK2⟩
                case measure => simp [intOf]; omega
            · have HN : Aside0 (ixOf (bytesOf S) = none) := ⟨by rw [HK.out, hst, ixF, if_pos (by omega)]⟩
              have hor : c < 48 ∨ (¬ c < 48 ∧ 57 < c) := by omega
              subst hc
              clear hst HK hdg
              rcases hor with d1 | ⟨d1, d2⟩
              all_goals
                go_wp2_with fail
                go_ret2
                exact ⟨by rw [HN.out]; rfl, rfl⟩
          · obtain rfl : k = S.size := by omega
            have HN : Aside0 (ixOf (bytesOf S) = some n) := ⟨by rw [HK.out, HT.out]⟩
            go_wp2_with fail
            go_ret2
            exact ⟨by rw [HN.out]; rfl, rfl⟩
set_option maxHeartbeats 4000000 in
set_option maxRecDepth 100000 in
theorem bracket_calls (S : ByteArray) (w : World) (hs : S.size ≤ 140737488351232) : Calls Tryd.prog 34 #[.string S] w (OptI (bkt S) w) := by
  by_cases h3 : S.size < 3
  · have HI : Aside0 (bkt S = none) := ⟨by unfold bkt; rw [if_pos (.inl h3)]⟩
    go_enter Tryd.func34, Tryd.ntmps34
    go_wp2
    go_ret2
    exact ⟨by rw [HI.out]; rfl, rfl⟩
  · obtain ⟨d, hd⟩ : ∃ d, S.size = d + 1 := ⟨S.size - 1, by omega⟩
    have hp0 : 0 < S.size := by omega
    have hpd : S.size - 1 < S.size := by omega
    have e0 := at_byte S 0 hp0
    have e1 := at_byte S (S.size - 1) hpd
    by_cases c0 : (bytesOf S).getD 0 0 = 91
    · by_cases c1 : (bytesOf S).getD (S.size - 1) 0 = 93
      · have HI : Aside0 (bkt S = ixOf (bytesOf (S.extract 1 (S.size - 1)))) := ⟨by unfold bkt; rw [if_neg (by rintro (h | h | h); exact h3 h; exact h c0; exact h c1)]⟩
        have b0 : ((S[0]'hp0).toNat : Int) = 91 := by omega
        have b1 : ((S[S.size - 1]'hpd).toNat : Int) = 93 := by omega
        have hes : (S.extract 1 (S.size - 1)).size ≤ 140737488351232 := by rw [ByteArray.size_extract]; omega
        have CI := Aside0.mk (fun W => index_calls (S.extract 1 (S.size - 1)) W hes)
        unfold OptI at CI
        clear hd e0 e1 c0 c1 hes
        go_enter Tryd.func34, Tryd.ntmps34
        go_wp2_with (go_at_call 48; refine (CI.out _).mono ?_; rintro e w' ⟨rfl, rfl⟩)
        go_ret2
        exact ⟨by rw [HI.out]; rfl, rfl⟩
      · have HI : Aside0 (bkt S = none) := ⟨by unfold bkt; rw [if_pos (.inr (.inr c1))]⟩
        have b0 : ((S[0]'hp0).toNat : Int) = 91 := by omega
        have b1 : (((S[S.size - 1]'hpd).toNat : Int) != 93) = true := by simp; omega
        clear hd e0 e1 c0 c1
        go_enter Tryd.func34, Tryd.ntmps34
        go_wp2
        go_ret2
        exact ⟨by rw [HI.out]; rfl, rfl⟩
    · have HI : Aside0 (bkt S = none) := ⟨by unfold bkt; rw [if_pos (.inr (.inl c0))]⟩
      have b0 : (((S[0]'hp0).toNat : Int) != 91) = true := by simp; omega
      clear hd e0 e1 c0
      go_enter Tryd.func34, Tryd.ntmps34
      go_wp2
      go_ret2
      exact ⟨by rw [HI.out]; rfl, rfl⟩
end Go.Proofs.YtpahejmkidhhhaaDoor.G
end

section
namespace Go.Proofs.YtpahejmkidhhhaaDoor.G
set_option linter.unusedVariables false
set_option linter.unusedSimpArgs false
open Go.RowKit Go.Proofs.YtpahejmkidhhhaaDoorW.PrintWords

theorem quo_last : ∀ (n : Nat) {l : List Int} {k : Nat}, l.length ≤ n → quo l = some k → l.getD (k - 1) 0 = 34
  | n, [], k, _, h => by rw [quo] at h; cases h
  | 0, c :: l, k, hn, h => by simp at hn
  | n + 1, c :: l, k, hn, h => by
    simp only [List.length_cons] at hn
    rw [quo_c] at h
    by_cases h1 : c = 34
    · rw [if_pos h1] at h; cases h; exact h1
    · rw [if_neg h1] at h
      by_cases h2 : c < 32
      · rw [if_pos h2] at h; cases h
      · rw [if_neg h2] at h
        by_cases h3 : c = 92
        · rw [if_pos h3] at h
          cases he : esc l with
          | none => rw [he] at h; cases h
          | some j =>
            rw [he] at h
            simp only [] at h
            cases hq : quo (l.drop j) with
            | none => rw [hq] at h; cases h
            | some q =>
              rw [hq] at h
              have hqq : q + (j + 1) = k := by simpa using h
              have hq1 := quo_le _ _ (Nat.le_refl _) hq
              have := quo_last n (by rw [List.length_drop]; omega) hq
              rw [getD_drop] at this
              rw [show k - 1 = (j + (q - 1)) + 1 by omega, List.getD_cons_succ]
              exact this
        · rw [if_neg h3] at h
          cases hq : quo l with
          | none => rw [hq] at h; cases h
          | some q =>
            rw [hq] at h
            have hqq : q + 1 = k := by simpa using h
            have hq1 := quo_le _ _ (Nat.le_refl _) hq
            have := quo_last n (by omega) hq
            rw [show k - 1 = (q - 1) + 1 by omega, List.getD_cons_succ]
            exact this
/-- A name in a text: its inside, its characters. -/
def NmOk (S : ByteArray) (s : Nat × Nat) : Prop :=
  ∃ R u, bytesOf (S.extract s.1 s.2) = 34 :: (R ++ [34]) ∧ quo (R ++ [34]) = some (R.length + 1) ∧ ue R = some u ∧ nmv (bytesOf S) s = some u ∧ s.1 ≤ s.2 ∧ s.2 ≤ S.size
theorem nm_ok {S : ByteArray} {a q d : Nat} (h : nam ((bytesOf S).drop a) = some (q, d)) : NmOk S (a, a + q) := by
  have hd := nam_le h
  rw [List.length_drop, bytesOf_length] at hd
  obtain ⟨h34, j, β, hq, rfl, _⟩ := nam_parts h
  have hq1 := quo_le _ _ (Nat.le_refl _) hq
  rw [List.length_drop, bytesOf_length] at hq1
  obtain ⟨u, hu⟩ := quo_ue _ (Nat.le_refl _) hq
  have hl := quo_last _ (Nat.le_refl _) hq
  have ht := quo_take _ (Nat.le_refl _) hq (Nat.le_refl _)
  have hLT : ((bytesOf S).drop (a + 1)).length = S.size - (a + 1) := by rw [List.length_drop, bytesOf_length]
  generalize hL : (bytesOf S).drop (a + 1) = L at hq hu hl ht hLT
  have hsplit : L.take j = L.take (j - 1) ++ [34] := by
    have := take_succ' L (j - 1) (by omega)
    rw [show j - 1 + 1 = j by omega, hl] at this
    exact this
  refine ⟨L.take (j - 1), u, ?_, ?_, hu, ?_, by omega, by omega⟩
  · rw [ext_list]
    unfold rest
    simp only []
    rw [drop_cons' (bytesOf S) a (by rw [bytesOf_length]; omega), h34, hL, show a + (1 + j) - a = j + 1 by omega, List.take_succ_cons, hsplit]
  · rw [← hsplit, ht, List.length_take]
    congr 1; omega
  · unfold nmv
    simp only []
    rw [hL, show a + (1 + j) - a - 2 = j - 1 by omega]; exact hu
theorem M_names {S : ByteArray} : ∀ (L a k : Nat) (ns : List (Nat × Nat)) (ks : List Pl), ((bytesOf S).drop a).length ≤ L → M a ((bytesOf S).drop a) = some (ns, ks, k) → ns.length = ks.length ∧ ∀ s ∈ ns, NmOk S s
  | L, a, k, ns, ks, hL, h => by
    obtain ⟨q, d, p0, j, ns', ks', hn, hv, rfl, rfl, hc⟩ := M_cases h
    have hok := nm_ok hn
    have hd := nam_le hn
    have hj := V_le hv
    rcases hc with ⟨rfl, rfl, _⟩ | ⟨z, b2, k2, h0, hb2, h1, h2, h3, h4⟩
    · exact ⟨rfl, fun s hs => by simp at hs; subst hs; exact hok⟩
    · rw [List.drop_drop] at h3
      cases L with
      | zero => omega
      | succ L =>
        obtain ⟨i1, i2⟩ := M_names L _ _ ns' ks' (by rw [List.length_drop] at hL hd hj ⊢; omega) h3
        exact ⟨by simp [i1], fun s hs => by
          rcases List.mem_cons.1 hs with rfl | hs
          · exact hok
          · exact i2 s hs⟩
/-- What is known of a place of a text. -/
structure PlOk (S : ByteArray) (p : Pl) : Prop where
  v : ∃ k, V p.b ((bytesOf S).drop p.b) = some (p, k)
theorem PlOk.names {S : ByteArray} {kd b e : Nat} {ns : List (Nat × Nat)} {ks : List Pl} (h : PlOk S (.mk kd b e ns ks)) : ∀ s ∈ ns, NmOk S s := by
  obtain ⟨k, hv⟩ := h.v
  obtain ⟨h6, h5, hno⟩ := kids_of hv
  by_cases hk6 : kd = 6
  · obtain ⟨_, hc⟩ := h6 hk6
    rcases hc with ⟨_, rfl⟩ | ⟨k', hM, _⟩
    · intro s hs; cases hs
    · exact (M_names _ _ _ _ _ (Nat.le_refl _) hM).2
  · obtain ⟨c, l', hl, hc⟩ := V_cases hv
    rcases hc with ⟨_, r, _, hp, _⟩ | ⟨_, r, _, hp, _⟩ | ⟨_, q, _, hp, _⟩ | ⟨_, _, _, ⟨kd', _, hp⟩, _⟩
    · injection hp with h1; exact absurd h1 hk6
    all_goals
      injection hp with _ _ _ h4 _
      subst h4
      intro s hs; cases hs
theorem PlOk.names_len {S : ByteArray} {kd b e : Nat} {ns : List (Nat × Nat)} {ks : List Pl} (h : PlOk S (.mk kd b e ns ks)) (h6k : kd = 6) : ns.length = ks.length := by
  obtain ⟨k, hv⟩ := h.v
  obtain ⟨h6, _⟩ := kids_of hv
  obtain ⟨_, hc⟩ := h6 h6k
  rcases hc with ⟨rfl, rfl⟩ | ⟨k', hM, _⟩
  · rfl
  · exact (M_names _ _ _ _ _ (Nat.le_refl _) hM).1
theorem PlOk.step {S : ByteArray} {p q : Pl} {key : ByteArray} (h : PlOk S p) (hs : stepP (bytesOf S) p key = some q) : PlOk S q := by
  obtain ⟨k, hv⟩ := h.v
  exact ⟨_, (step_in hv hs).1.v⟩
theorem idx_of {α : Type} (l : List α) (f : α → Bool) : ∀ i, i ≤ l.length → (∀ j, j < i → ∀ h : j < l.length, f l[j] = false) → (∀ h : i < l.length, f l[i] = true → l.findIdx? f = some i) ∧ (i = l.length → l.findIdx? f = none) := by
  induction l with
  | nil => intro i hi _; exact ⟨fun h => by simp at h, fun _ => rfl⟩
  | cons x l ih =>
    intro i hi hj
    cases i with
    | zero => exact ⟨fun _ hf => by rw [List.findIdx?_cons]; simp at hf; rw [if_pos hf], fun h => by simp at h⟩
    | succ i =>
      have h0 : f x = false := hj 0 (by omega) (by simp)
      obtain ⟨a, b⟩ := ih i (by simpa using hi) (fun j hji h => hj (j + 1) (by omega) (by simpa using h))
      rw [List.findIdx?_cons, if_neg (by rw [h0]; decide)]
      exact ⟨fun h hf => by rw [a (by simpa using h) (by simpa using hf)]; rfl, fun h => by rw [b (by simpa using h)]; rfl⟩
theorem RowF.below {w w' : World} {F : Nat → Prop} {e sz : Nat} {v : Value} {n : Nat} {xs : List Value} (h : RowF w F e sz v n xs) (hb : Below w.heap.size w w') : RowF w' F e sz v n xs := h.kept (fun g hg _ => hb.block g hg)
theorem spans_len : ∀ ns : List (Nat × Nat), (spans ns).length = 2 * ns.length
  | [] => rfl
  | p :: ns => by
    have := spans_len ns
    unfold spans at this ⊢
    simp only [List.map_cons, List.flatten_cons, List.length_append, List.length_cons, List.length_nil] at this ⊢
    omega
theorem spans_at : ∀ (ns : List (Nat × Nat)) (i : Nat) (h : i < ns.length), (spans ns)[2 * i]? = some (.int .i64 (ns[i].1 : Int)) ∧ (spans ns)[2 * i + 1]? = some (.int .i64 (ns[i].2 : Int))
  | [], i, h => by simp at h
  | p :: ns, 0, _ => ⟨rfl, rfl⟩
  | p :: ns, i + 1, h => by
    have := spans_at ns i (by simpa using h)
    have e : spans (p :: ns) = [Value.int .i64 p.1, Value.int .i64 p.2] ++ spans ns := rfl
    rw [e, List.getElem?_append_right (by simp; omega), List.getElem?_append_right (by simp; omega)]
    simpa [show 2 * (i + 1) - 2 = 2 * i by omega, show 2 * (i + 1) + 1 - 2 = 2 * i + 1 by omega] using this
/-- The cells of the names. -/
theorem names_cells {w : World} {F : Nat → Prop} {nv : Value} {ns : List (Nat × Nat)} (h : RowF w F 64 2 nv ns.length (spans ns)) : ∃ A c, nv = .slice A ns.length c ∧ ∀ i (hi : i < ns.length), ∃ g, A = some ⟨g, 0, none⟩ ∧ w.cell? ⟨g, 2 * i, none⟩ = some (.int .i64 (ns[i].1 : Int)) ∧ w.cell? ⟨g, 2 * i + 1, none⟩ = some (.int .i64 (ns[i].2 : Int)) := by
  obtain ⟨A, c, rfl⟩ := own_slice h.1
  refine ⟨A, c, rfl, fun i hi => ?_⟩
  obtain ⟨g, cap, he, _, _⟩ := h.1.form (by omega)
  injection he with he _ _
  subst he
  have hc := h.1.cells (g := g) rfl
  have hadd : ∀ j, (⟨g, 0, none⟩ : Addr).add j = ⟨g, j, none⟩ := fun j => by unfold Addr.add; split <;> simp_all
  have h2 := spans_at ns i hi
  refine ⟨g, rfl, ?_, ?_⟩
  · have := hc _ _ h2.1; rwa [hadd] at this
  · have := hc _ _ h2.2; rwa [hadd] at this
def NamedR (T : List Int) (ns : List (Nat × Nat)) (key : ByteArray) : Int := match ns.findIdx? (fun s => nmv T s == some (bytesOf key)) with | some t => (t : Int) | none => -1
def NamedA (r : Int) (w : World) (e : Ending) (w' : World) : Prop := e = .returned (.int .i64 r) ∧ Below w.heap.size w w'
set_option maxHeartbeats 8000000 in
set_option maxRecDepth 100000 in
theorem named_calls (S key : ByteArray) (k b e : Int) (nv : Value) (kv : Value) (ns : List (Nat × Nat)) (F : Nat → Prop) (w : World) (hS : S.size ≤ 2147483647) (hkv : ∃ a n c, kv = .slice a n c) (hn : RowF w F 64 2 nv ns.length (spans ns)) (hnl : ns.length ≤ 2147483647) (hok : ∀ s ∈ ns, NmOk S s) :
    Calls Tryd.prog 33 #[.string S, .agg #[.int .i64 k, .int .i64 b, .int .i64 e, nv, kv], .string key] w (NamedA (NamedR (bytesOf S) ns key) w) := by
  obtain ⟨A, c, rfl, hcells⟩ := names_cells hn
  obtain ⟨ka, kn, kc, rfl⟩ := hkv
  have hblk := heap_alloc_new w (.cells #[.int .i64 k, .int .i64 b, .int .i64 e, .slice A ns.length c, .slice ka kn kc] 27)
  have HC : Aside0 (∀ W, Below (w.alloc (.cells #[.int .i64 k, .int .i64 b, .int .i64 e, .slice A ns.length c, .slice ka kn kc] 27)).heap.size (w.alloc (.cells #[.int .i64 k, .int .i64 b, .int .i64 e, .slice A ns.length c, .slice ka kn kc] 27)) W →
      W.cell? ⟨w.heap.size, 3, none⟩ = some (.slice A ns.length c) ∧ ∀ i (hi : i < ns.length), ∃ g, A = some ⟨g, 0, none⟩ ∧ W.cell? ⟨g, 2 * i, none⟩ = some (.int .i64 (ns[i].1 : Int)) ∧ W.cell? ⟨g, 2 * i + 1, none⟩ = some (.int .i64 (ns[i].2 : Int))) := ⟨fun W hb => by
    have h3 : W.heap[w.heap.size]? = some _ := (hb.block _ (by rw [World.size_alloc]; omega)).trans hblk
    refine ⟨blk_cell h3 rfl, fun i hi => ?_⟩
    obtain ⟨g, h1, h4, h5⟩ := hcells i hi
    have hg : g < w.heap.size := World.block_lt_of_cell? w _ h4
    have hbw := below_step (below_alloc1 (w := w) _) hb
    exact ⟨g, h1, by rw [hbw.cell (p := ⟨g, 2 * i, none⟩) hg]; exact h4, by rw [hbw.cell (p := ⟨g, 2 * i + 1, none⟩) hg]; exact h5⟩⟩
  have HOK := Aside0.mk hok
  have HX := Aside0.mk (idx_of ns (fun s => nmv (bytesOf S) s == some (bytesOf key)))
  clear hn hok hcells hblk
  go_enter Tryd.func33, Tryd.ntmps33
  go_wp2_with fail
  go_loopw [7] (fun v7 wr => ∃ i : Nat, i ≤ ns.length ∧ v7 = .int .i64 (i : Int) ∧ Aside0 (∀ j, j < i → ∀ h : j < ns.length, (nmv (bytesOf S) ns[j] == some (bytesOf key)) = false) ∧ Aside0 (Below (w.alloc (.cells #[.int .i64 k, .int .i64 b, .int .i64 e, .slice A ns.length c, .slice ka kn kc] 27)).heap.size (w.alloc (.cells #[.int .i64 k, .int .i64 b, .int .i64 e, .slice A ns.length c, .slice ka kn kc] 27)) wr)) (fun v7 _ => ns.length - (intOf v7).toNat)
  case atStart => exact ⟨0, Nat.zero_le _, rfl, ⟨fun j hj => by omega⟩, ⟨Below.refl _ _⟩⟩
  case round =>
    obtain ⟨i, hi, rfl, HN, HB⟩ := hrel
    obtain ⟨r3, hc⟩ := HC.out wr HB.out
    by_cases hlt : i < ns.length
    · obtain ⟨g, rfl, q0, q1⟩ := hc i hlt
      obtain ⟨R, u, k1, k2, k3, k4, k5, k6⟩ := HOK.out ns[i] (List.getElem_mem hlt)
      have hes : (S.extract ns[i].1 ns[i].2).size ≤ 2147483647 := by rw [ByteArray.size_extract]; omega
      have CU := Aside0.mk (fun W => unq_calls (S.extract ns[i].1 ns[i].2) R u W hes k1 k2 k3)
      generalize hp1 : ns[i].1 = p1 at q0 CU k5
      generalize hp2 : ns[i].2 = p2 at q1 CU k5 k6
      have HP := Aside0.mk (And.intro hp1 hp2)
      rw [Nat.mul_comm] at q0 q1
      by_cases hk : nmv (bytesOf S) ns[i] = some (bytesOf key)
      · have hue : u = bytesOf key := by rw [k4] at hk; exact Option.some.inj hk
        have HR : Aside0 (NamedR (bytesOf S) ns key = (i : Int)) := ⟨by unfold NamedR; rw [(HX.out i hi HN.out).1 hlt (by rw [hk]; simp)]⟩
        have HU := Aside0.mk hue
        clear k1 k2 k3 k4 hk hue hp1 hp2 hc
        go_upto_region 4 with fail
        go_region_with (go_at_call 30; refine (CU.out _).mono ?_; rintro e' w1 ⟨s1, rfl, hs1, hb1⟩; obtain rfl : key = s1 := (bytesOf_inj (hs1.out.trans HU.out)).symm)
        all_goals go_wp2_with fail
        all_goals go_ret
        all_goals exact ⟨by rw [HR.out]; rfl, below_step (below_step (below_alloc1 _) (below_drewN HB.out _)) hb1⟩
      · have hue : u ≠ bytesOf key := fun h => hk (by rw [k4, h])
        have HU := Aside0.mk hue
        have HN2 : Aside0 (∀ j, j < i + 1 → ∀ h : j < ns.length, (nmv (bytesOf S) ns[j] == some (bytesOf key)) = false) := ⟨fun j hj h => by
          by_cases e : j = i
          · subst e; simpa using hk
          · exact HN.out j (by omega) h⟩
        clear k1 k2 k3 k4 hk hue hp1 hp2 hc
        go_upto_region 4 with fail
        go_region_with (go_at_call 30; refine (CU.out _).mono ?_; rintro e' w1 ⟨s1, rfl, hs1, hb1⟩; have hne : (s1.toList == key.toList) = false := (by simp only [beq_eq_false_iff_ne, ne_eq]; exact fun h => HU.out (hs1.out.symm.trans (congrArg bytesOf (ByteArray.ext (Array.toList_inj.1 (by rw [ByteArray.toList_eq, ByteArray.toList_eq] at h; exact h)))))))
        all_goals go_wp2_with fail
        all_goals
          go_roundw
          case rel => exact ⟨i + 1, by omega, by go_num, HN2, ⟨below_step (below_drewN HB.out _) hb1⟩⟩
          case measure => simp [intOf]; omega
    · obtain rfl : i = ns.length := by omega
      have HR : Aside0 (NamedR (bytesOf S) ns key = -1) := ⟨by unfold NamedR; rw [(HX.out _ (Nat.le_refl _) HN.out).2 rfl]⟩
      go_wp2_with fail
      go_ret
      exact ⟨by rw [HR.out]; rfl, below_step (below_alloc1 _) HB.out⟩
end Go.Proofs.YtpahejmkidhhhaaDoor.G
end

section
namespace Go.Proofs.YtpahejmkidhhhaaDoor.G
set_option linter.unusedVariables false
set_option linter.unusedSimpArgs false
open Go.RowKit Go.Proofs.YtpahejmkidhhhaaDoorW.PrintWords

theorem plat_below {F : Nat → Prop} {w w' : World} {p : Pl} {cs : List Value} (h : PlAt w F p cs) (hb : Below w.heap.size w w') : PlAt w' F p cs := PlAt.kept (fun g hg _ => hb.block g hg) h
theorem plat_cells {F : Nat → Prop} {w : World} {kd b e : Nat} {ns : List (Nat × Nat)} {ks : List Pl} {cs : List Value} (h : PlAt w F (.mk kd b e ns ks) cs) : ∃ nv kv xs, cs = [.int .i64 (kd : Int), .int .i64 (b : Int), .int .i64 (e : Int), nv, kv] ∧ RowF w F 64 2 nv ns.length (spans ns) ∧ RowF w F 27 5 kv ks.length xs ∧ PlsAt w F ks xs := by
  unfold PlAt at h
  exact h
theorem pls_at {w : World} {F : Nat → Prop} : ∀ {ks : List Pl} {xs : List Value} {t : Nat} {p : Pl}, PlsAt w F ks xs → ks[t]? = some p → ∃ cs, PlAt w F p cs ∧ cs.length = 5 ∧ ∀ f, f < 5 → xs[5 * t + f]? = cs[f]?
  | [], xs, t, p, _, h => by simp at h
  | q :: ks, xs, t, p, hp, h => by
    unfold PlsAt at hp
    obtain ⟨a, c, rfl, h2, h3⟩ := hp
    have hal : a.length = 5 := by
      obtain ⟨kd, b, e, ns, kk⟩ := q
      unfold PlAt at h2
      obtain ⟨nv, kv, xs, rfl, _⟩ := h2
      rfl
    cases t with
    | zero =>
      simp only [List.getElem?_cons_zero, Option.some.injEq] at h
      subst h
      exact ⟨a, h2, hal, fun f hf => by rw [Nat.mul_zero, Nat.zero_add, List.getElem?_append_left (by omega)]⟩
    | succ t =>
      obtain ⟨cs, h4, h5, h6⟩ := pls_at h3 (by simpa using h)
      refine ⟨cs, h4, h5, fun f hf => ?_⟩
      rw [List.getElem?_append_right (by omega), ← h6 f hf, hal]
      congr 1; omega
/-- A kid's cells. -/
theorem kid_cells {F : Nat → Prop} {w : World} {kv : Value} {ks : List Pl} {xs : List Value} (h : RowF w F 27 5 kv ks.length xs) (hp : PlsAt w F ks xs) : ∃ A c, kv = .slice A ks.length c ∧ ∀ t p, ks[t]? = some p → ∃ g k b e nv kv', A = some ⟨g, 0, none⟩ ∧ PlAt w F p [.int .i64 k, .int .i64 b, .int .i64 e, nv, kv'] ∧
    w.cell? ⟨g, t * 5, none⟩ = some (.int .i64 k) ∧ w.cell? ⟨g, t * 5 + 1, none⟩ = some (.int .i64 b) ∧ w.cell? ⟨g, t * 5 + 2, none⟩ = some (.int .i64 e) ∧ w.cell? ⟨g, t * 5 + 3, none⟩ = some nv ∧ w.cell? ⟨g, t * 5 + 4, none⟩ = some kv' := by
  obtain ⟨A, c, rfl⟩ := own_slice h.1
  refine ⟨A, c, rfl, fun t p ht => ?_⟩
  have hlt : t < ks.length := by
    rcases Nat.lt_or_ge t ks.length with h | h
    · exact h
    · rw [List.getElem?_eq_none h] at ht; cases ht
  obtain ⟨g, cap, he, _, _⟩ := h.1.form (by omega)
  injection he with he _ _
  subst he
  have hc := h.1.cells (g := g) rfl
  have hadd : ∀ j, (⟨g, 0, none⟩ : Addr).add j = ⟨g, j, none⟩ := fun j => by unfold Addr.add; split <;> simp_all
  obtain ⟨cs, h4, h5, h6⟩ := pls_at hp ht
  obtain ⟨kd, b, e, ns, kk⟩ := p
  have h4' := h4
  unfold PlAt at h4
  obtain ⟨nv, kv, ys, rfl, _⟩ := h4
  refine ⟨g, _, _, _, nv, kv, rfl, h4', ?_, ?_, ?_, ?_, ?_⟩
  · have := hc _ _ ((h6 0 (by omega)).trans rfl); rwa [hadd, Nat.mul_comm] at this
  · have := hc _ _ ((h6 1 (by omega)).trans rfl); rwa [hadd, Nat.mul_comm] at this
  · have := hc _ _ ((h6 2 (by omega)).trans rfl); rwa [hadd, Nat.mul_comm] at this
  · have := hc _ _ ((h6 3 (by omega)).trans rfl); rwa [hadd, Nat.mul_comm] at this
  · have := hc _ _ ((h6 4 (by omega)).trans rfl); rwa [hadd, Nat.mul_comm] at this
theorem plc5_ret {fn : Func} {i j : Nat} (hfn : fn.results = #[.cell i 27, .tmp j]) {tmps : Array Value} {W : World} {hh : Nat} {cs : Array Value} {ok : Bool} (h2 : tmps.getD i undef = .pointer (some ⟨hh, 0, none⟩)) (h3 : tmps.getD j undef = .bool ok) (hg : W.heap[hh]? = some (.cells cs 27)) (hs : cs.size = 5) :
    (results fn tmps).run Tryd.prog W = .ok (.tuple #[.agg cs, .bool ok]) W := by
  rw [results_cell_tmp hfn, h2, h3]
  simp [asAddr, Result.andThen, run_loadVar_row W hh 27 27 cs (0, 0) _ hg Tryd.underlying27 rfl (by rw [hs]; kernel_rfl)]
theorem plc5_close {fn : Func} {i j : Nat} (hfn : fn.results = #[.cell i 27, .tmp j]) {w W : World} {hh : Nat} {p0 p1 p2 p3 p4 q0 q1 q2 q3 q4 : Value} {ok : Bool} {R : Ending → World → Prop} (hB : W.heap[hh]? = some (.cells #[p0, p1, p2, p3, p4] 27)) (hle : w.heap.size ≤ hh) (hb : Below w.heap.size w W)
    (hR : ∀ W', Below w.heap.size w W' → R (.returned (.tuple #[.agg #[q0, q1, q2, q3, q4], .bool ok])) W')
    (a : Act) (h2 : a.tmps.getD i undef = .pointer (some ⟨hh, 0, none⟩)) (h3 : a.tmps.getD j undef = .bool ok) (hd : a.defers = []) :
    bodyPost Tryd.prog fn R .ret a (((((W.setCell ⟨hh, 0, none⟩ q0).setCell ⟨hh, 1, none⟩ q1).setCell ⟨hh, 2, none⟩ q2).setCell ⟨hh, 3, none⟩ q3).setCell ⟨hh, 4, none⟩ q4) := by
  have e0 := res_put (j := 0) (v := q0) hB rfl
  have e1 := res_put (j := 1) (v := q1) e0 rfl
  have e2 := res_put (j := 2) (v := q2) e1 rfl
  have e3 := res_put (j := 3) (v := q3) e2 rfl
  have e4 := res_put (j := 4) (v := q4) e3 rfl
  refine bodyPost_ret (plc5_ret hfn h2 h3 e4 rfl) hd (hR _ ?_)
  exact ((((hb.setCell hle _).setCell hle _).setCell hle _).setCell hle _).setCell hle _
theorem E_len {T : List Int} : ∀ (L a k : Nat) (ks : List Pl), (T.drop a).length ≤ L → E a (T.drop a) = some (ks, k) → ks.length ≤ k
  | L, a, k, ks, hL, h => by
    obtain ⟨p0, j, ks', hv, rfl, hc⟩ := E_cases h
    have hj := V_le hv
    rcases hc with ⟨rfl, h1, h2, h3⟩ | ⟨z, b2, k2, h0, hb2, h1, h2, h3, h4⟩
    · simp; omega
    · rw [List.drop_drop] at h3
      cases L with
      | zero => omega
      | succ L =>
        have := E_len L _ _ ks' (by rw [List.length_drop] at hL hj ⊢; omega) h3
        simp; omega
theorem M_len {T : List Int} : ∀ (L a k : Nat) (ns : List (Nat × Nat)) (ks : List Pl), (T.drop a).length ≤ L → M a (T.drop a) = some (ns, ks, k) → ks.length ≤ k
  | L, a, k, ns, ks, hL, h => by
    obtain ⟨q, d, p0, j, ns', ks', hn, hv, rfl, rfl, hc⟩ := M_cases h
    have hj := V_le hv
    have hd := nam_le hn
    rcases hc with ⟨rfl, rfl, h1, h2, h3⟩ | ⟨z, b2, k2, h0, hb2, h1, h2, h3, h4⟩
    · simp; omega
    · rw [List.drop_drop] at h3
      cases L with
      | zero => omega
      | succ L =>
        have := M_len L _ _ _ ks' (by rw [List.length_drop] at hL hd hj ⊢; omega) h3
        simp; omega
theorem PlOk.few {S : ByteArray} {kd b e : Nat} {ns : List (Nat × Nat)} {ks : List Pl} (h : PlOk S (.mk kd b e ns ks)) : ks.length ≤ S.size ∧ ns.length ≤ S.size := by
  obtain ⟨k, hv⟩ := h.v
  have hk := V_le hv
  rw [List.length_drop, bytesOf_length] at hk
  have hks : ks.length ≤ S.size := by
    obtain ⟨h6, h5, hno⟩ := kids_of hv
    by_cases hk6 : kd = 6
    · obtain ⟨_, hc⟩ := h6 hk6
      rcases hc with ⟨rfl, _⟩ | ⟨k', hM, hkk⟩
      · simp
      · have := M_len _ _ _ _ _ (Nat.le_refl _) hM; clear h6 h5 hno; omega
    · by_cases hk5 : kd = 5
      · obtain ⟨_, hc⟩ := h5 hk5
        rcases hc with ⟨rfl, _⟩ | ⟨k', hM, hkk⟩
        · simp
        · have := E_len _ _ _ _ (Nat.le_refl _) hM; clear h6 h5 hno; omega
      · rw [hno hk6 hk5]; simp
  refine ⟨hks, ?_⟩
  by_cases hk6 : kd = 6
  · rw [h.names_len hk6]; exact hks
  · obtain ⟨c, l', hl, hc⟩ := V_cases hv
    rcases hc with ⟨_, r, _, hp, _⟩ | ⟨_, r, _, hp, _⟩ | ⟨_, q, _, hp, _⟩ | ⟨_, _, _, ⟨kd', _, hp⟩, _⟩
    · injection hp with h1; exact absurd h1 hk6
    all_goals
      injection hp with _ _ _ h4 _
      subst h4
      simp
/-- A place, or none. -/
def StA (F : Nat → Prop) (o : Option Pl) (w : World) (en : Ending) (w' : World) : Prop :=
  ∃ (k b e : Int) (na : Option Addr) (nn nc : Nat) (ka : Option Addr) (kn kc : Nat) (ok : Bool), en = .returned (.tuple #[.agg #[.int .i64 k, .int .i64 b, .int .i64 e, .slice na nn nc, .slice ka kn kc], .bool ok]) ∧ Below w.heap.size w w' ∧
    Aside0 (match o with | none => ok = false | some q => ok = true ∧ PlAt w' F q [.int .i64 k, .int .i64 b, .int .i64 e, .slice na nn nc, .slice ka kn kc])
theorem plat_slices {F : Nat → Prop} {w : World} {p : Pl} {k b e : Int} {nv kv : Value} (h : PlAt w F p [.int .i64 k, .int .i64 b, .int .i64 e, nv, kv]) : ∃ na nn nc ka kn kc, nv = .slice na nn nc ∧ kv = .slice ka kn kc := by
  obtain ⟨kd, b', e', ns, ks⟩ := p
  obtain ⟨nv', kv', xs, hcs, h1, h2, _⟩ := plat_cells h
  simp only [List.cons.injEq] at hcs
  obtain ⟨_, _, _, rfl, rfl, _⟩ := hcs
  obtain ⟨A, c, rfl⟩ := own_slice h1.1
  obtain ⟨A', c', rfl⟩ := own_slice h2.1
  exact ⟨_, _, _, _, _, _, rfl, rfl⟩
set_option maxHeartbeats 8000000 in
set_option maxRecDepth 100000 in
theorem step_calls (F : Nat → Prop) (S key : ByteArray) (kd b e : Nat) (ns : List (Nat × Nat)) (ks : List Pl) (nv kv : Value) (w : World) (hS : S.size ≤ 2147483647) (hkey : key.size ≤ 140737488351232) (hp : PlAt w F (.mk kd b e ns ks) [.int .i64 (kd : Int), .int .i64 (b : Int), .int .i64 (e : Int), nv, kv]) (hok : PlOk S (.mk kd b e ns ks)) :
    Calls Tryd.prog 25 #[.string S, .agg #[.int .i64 (kd : Int), .int .i64 (b : Int), .int .i64 (e : Int), nv, kv], .string key] w (StA F (stepP (bytesOf S) (.mk kd b e ns ks) key) w) := by
  obtain ⟨nv', kv', xs, hcs, hn, hk, hks⟩ := plat_cells hp
  simp only [List.cons.injEq, true_and, and_true] at hcs
  obtain ⟨rfl, rfl⟩ := hcs
  obtain ⟨A, c, rfl, hkids⟩ := kid_cells hk hks
  obtain ⟨nA, nc, rfl⟩ := own_slice hn.1
  have hst := stepP_mk (bytesOf S) kd b e ns ks key
  obtain ⟨W2, hW2⟩ : ∃ W2, W2 = (w.alloc (.cells #[.int .i64 (kd : Int), .int .i64 (b : Int), .int .i64 (e : Int), .slice nA ns.length nc, .slice A ks.length c] 27)).alloc (.cells #[.int .i64 0, .int .i64 0, .int .i64 0, .slice none 0 0, .slice none 0 0] 27) := ⟨_, rfl⟩
  have hb2 : Below w.heap.size w W2 := by rw [hW2]; exact (below_alloc1 _).alloc (by rw [World.size_alloc]; omega) _
  have hs2 : W2.heap.size = w.heap.size + 2 := by rw [hW2, World.size_alloc, World.size_alloc]
  have hk1 : W2.heap[w.heap.size]? = some (.cells #[.int .i64 (kd : Int), .int .i64 (b : Int), .int .i64 (e : Int), .slice nA ns.length nc, .slice A ks.length c] 27) := by
    rw [hW2, Below.heap_alloc _ _ _ (by rw [World.size_alloc]; omega)]; exact heap_alloc_new _ _
  have hk2 : W2.heap[w.heap.size + 1]? = some (.cells #[.int .i64 0, .int .i64 0, .int .i64 0, .slice none 0 0, .slice none 0 0] 27) := by
    have := heap_alloc_new (w.alloc (.cells #[.int .i64 (kd : Int), .int .i64 (b : Int), .int .i64 (e : Int), .slice nA ns.length nc, .slice A ks.length c] 27)) (.cells #[.int .i64 0, .int .i64 0, .int .i64 0, .slice none 0 0, .slice none 0 0] 27)
    rw [World.size_alloc] at this
    rw [hW2]; exact this
  have HF : Aside0 (∀ W, Below W2.heap.size W2 W → (W.cell? ⟨w.heap.size, 0, none⟩ = some (.int .i64 (kd : Int)) ∧ W.cell? ⟨w.heap.size, 1, none⟩ = some (.int .i64 (b : Int)) ∧ W.cell? ⟨w.heap.size, 2, none⟩ = some (.int .i64 (e : Int)) ∧ W.cell? ⟨w.heap.size, 3, none⟩ = some (.slice nA ns.length nc) ∧ W.cell? ⟨w.heap.size, 4, none⟩ = some (.slice A ks.length c)) ∧
      (W.cell? ⟨w.heap.size + 1, 0, none⟩ = some (.int .i64 0) ∧ W.cell? ⟨w.heap.size + 1, 1, none⟩ = some (.int .i64 0) ∧ W.cell? ⟨w.heap.size + 1, 2, none⟩ = some (.int .i64 0) ∧ W.cell? ⟨w.heap.size + 1, 3, none⟩ = some (.slice none 0 0) ∧ W.cell? ⟨w.heap.size + 1, 4, none⟩ = some (.slice none 0 0) ∧ ∀ j, W.frozen? ⟨w.heap.size + 1, j, none⟩ = false) ∧
      W.heap[w.heap.size + 1]? = some (.cells #[.int .i64 0, .int .i64 0, .int .i64 0, .slice none 0 0, .slice none 0 0] 27) ∧ Below w.heap.size w W) := ⟨fun W hb => by
    have h1 : W.heap[w.heap.size]? = some _ := (hb.block _ (by omega)).trans hk1
    have h2 : W.heap[w.heap.size + 1]? = some _ := (hb.block _ (by omega)).trans hk2
    exact ⟨⟨blk_cell h1 rfl, blk_cell h1 rfl, blk_cell h1 rfl, blk_cell h1 rfl, blk_cell h1 rfl⟩, ⟨blk_cell h2 rfl, blk_cell h2 rfl, blk_cell h2 rfl, blk_cell h2 rfl, blk_cell h2 rfl, fun j => blk_froz h2⟩, h2, below_step hb2 hb⟩⟩
  have hnl : ns.length ≤ 2147483647 := by have := hok.few; omega
  have CN := Aside0.mk (fun W (hb : Below W2.heap.size W2 W) => named_calls S key (kd : Int) (b : Int) (e : Int) (.slice nA ns.length nc) (.slice A ks.length c) ns F W hS ⟨_, _, _, rfl⟩ (hn.below (below_step hb2 hb)) hnl hok.names)
  have CB := Aside0.mk (fun W => bracket_calls key W hkey)
  have HK : Aside0 (∀ t p, ks[t]? = some p → ∃ (g : Nat) (k' b' e' : Int) (na : Option Addr) (nn nc : Nat) (ka : Option Addr) (kn kc : Nat), A = some ⟨g, 0, none⟩ ∧ ∀ W, Below w.heap.size w W → (W.cell? ⟨g, t * 5, none⟩ = some (.int .i64 k') ∧ W.cell? ⟨g, t * 5 + 1, none⟩ = some (.int .i64 b') ∧ W.cell? ⟨g, t * 5 + 2, none⟩ = some (.int .i64 e') ∧ W.cell? ⟨g, t * 5 + 3, none⟩ = some (.slice na nn nc) ∧ W.cell? ⟨g, t * 5 + 4, none⟩ = some (.slice ka kn kc)) ∧
      PlAt W F p [.int .i64 k', .int .i64 b', .int .i64 e', .slice na nn nc, .slice ka kn kc]) := ⟨fun t p ht => by
    obtain ⟨g, k', b', e', nv', kv', hA, hP, c0, c1, c2, c3, c4⟩ := hkids t p ht
    obtain ⟨na, nn, nc, ka, kn, kc, rfl, rfl⟩ := plat_slices hP
    have hg : g < w.heap.size := World.block_lt_of_cell? w _ c0
    refine ⟨g, k', b', e', na, nn, nc, ka, kn, kc, hA, fun W hb => ?_⟩
    have tr := fun j => hb.cell (p := ⟨g, j, none⟩) hg
    exact ⟨⟨by rw [tr]; exact c0, by rw [tr]; exact c1, by rw [tr]; exact c2, by rw [tr]; exact c3, by rw [tr]; exact c4⟩, plat_below hP hb⟩⟩
  obtain ⟨⟨r0, r1, r2, r3, r4⟩, ⟨s0, s1, s2, s3, s4, sf⟩, sB, sW⟩ := HF.out W2 (Below.refl _ _)
  have HG : Aside0 (∃ V, V = (w.alloc (.cells #[.int .i64 (kd : Int), .int .i64 (b : Int), .int .i64 (e : Int), .slice nA ns.length nc, .slice A ks.length c] 27)).alloc (.cells #[.int .i64 0, .int .i64 0, .int .i64 0, .slice none 0 0, .slice none 0 0] 27) ∧ V.cell? ⟨w.heap.size, 4, none⟩ = some (.slice A ks.length c) ∧
      (V.cell? ⟨w.heap.size + 1, 0, none⟩ = some (.int .i64 0) ∧ V.cell? ⟨w.heap.size + 1, 1, none⟩ = some (.int .i64 0) ∧ V.cell? ⟨w.heap.size + 1, 2, none⟩ = some (.int .i64 0) ∧ V.cell? ⟨w.heap.size + 1, 3, none⟩ = some (.slice none 0 0) ∧ V.cell? ⟨w.heap.size + 1, 4, none⟩ = some (.slice none 0 0) ∧ ∀ j, V.frozen? ⟨w.heap.size + 1, j, none⟩ = false) ∧
      V.heap[w.heap.size + 1]? = some (.cells #[.int .i64 0, .int .i64 0, .int .i64 0, .slice none 0 0, .slice none 0 0] 27) ∧ Below w.heap.size w V) := ⟨W2, hW2, r4, ⟨s0, s1, s2, s3, s4, sf⟩, sB, sW⟩
  have SB := Aside0.mk (And.intro sB sW)
  clear s0 s1 s2 s3 s4 sf
  have hwl : w.heap.size ≤ w.heap.size + 1 := Nat.le_succ _
  have hnk := Aside0.mk hok.names_len
  have hk31 : ks.length ≤ 2147483647 := by have := hok.few; omega
  clear hkids hn hk hks hp hok hk1 hk2 hs2 hb2 sB sW
  subst hW2
  by_cases h6 : kd = 6
  · subst h6
    rw [if_pos rfl] at hst
    replace hnk := Aside0.mk (hnk.out rfl)
    cases hf : ns.findIdx? (fun s => nmv (bytesOf S) s == some (bytesOf key)) with
    | none =>
      rw [hf] at hst
      have HS := Aside0.mk hst
      have HR : NamedR (bytesOf S) ns key = -1 := by unfold NamedR; rw [hf]
      rw [HR] at CN
      clear hf hst HR CB HK
      go_enter Tryd.func25, Tryd.ntmps25
      go_wp2_with (go_at_call 33; refine (CN.out _ (Below.refl _ _)).mono ?_; rintro en w1 ⟨rfl, hb⟩; have hF := Aside0.mk (HF.out _ hb); obtain ⟨⟨r0, r1, r2, r3, r4⟩, ⟨s0, s1, s2, s3, s4, sf⟩, _, _⟩ := hF.out)
      (try simp only [Exit.inBlock, Exit.then])
      refine plc5_close rfl hF.out.2.2.1 (Nat.le_succ _) hF.out.2.2.2 (fun W' hb' => ?_) _ rfl rfl rfl
      rw [HS.out]
      exact ⟨0, 0, 0, none, 0, 0, none, 0, 0, false, rfl, hb', ⟨rfl⟩⟩
    | some t =>
      rw [hf] at hst
      simp only [] at hst
      have htn : t < ns.length := by
        obtain ⟨h, _⟩ := List.findIdx?_eq_some_iff_getElem.1 hf
        exact h
      have htk : t < ks.length := by have := hnk.out; omega
      have hq : ks[t]? = some ks[t] := List.getElem?_eq_getElem htk
      rw [hq] at hst
      have HS := Aside0.mk hst
      have HQ := Aside0.mk hq
      have HR : NamedR (bytesOf S) ns key = (t : Int) := by unfold NamedR; rw [hf]
      rw [HR] at CN
      clear hf hst HR CB hq htn
      go_enter Tryd.func25, Tryd.ntmps25
      go_wp2_with (go_at_call 33; refine (CN.out _ (Below.refl _ _)).mono ?_; rintro en w1 ⟨rfl, hb⟩; have hF := Aside0.mk (HF.out _ hb); obtain ⟨⟨r0, r1, r2, r3, r4⟩, ⟨s0, s1, s2, s3, s4, sf⟩, _, _⟩ := hF.out; obtain ⟨g, k', b', e', na', nn', nc', ka', kn', kc', rfl, hK⟩ := HK.out t _ HQ.out; replace hK := Aside0.mk hK; obtain ⟨c0, c1, c2, c3, c4⟩ := (hK.out w1 hF.out.2.2.2).1)
      (try simp only [Exit.inBlock, Exit.then])
      refine plc5_close rfl hF.out.2.2.1 (Nat.le_succ _) hF.out.2.2.2 (fun W' hb' => ?_) _ rfl rfl rfl
      rw [HS.out]
      exact ⟨k', b', e', na', nn', nc', ka', kn', kc', true, rfl, hb', ⟨rfl, (hK.out W' hb').2⟩⟩
  · rw [if_neg h6] at hst
    have h6b : ((kd : Int) == 6) = false := by simp; omega
    by_cases h5 : kd = 5
    · rw [if_pos h5] at hst
      have h5t : ((kd : Int) == 5) = true := by simp; omega
      cases hbk : bkt key with
      | none =>
        rw [hbk] at hst CB
        have HS := Aside0.mk hst
        unfold OptI at CB
        clear hst CN HK h6 hbk h5
        go_enter Tryd.func25, Tryd.ntmps25
        go_upto_region 9 with (go_at_call 34; refine (CB.out _).mono ?_; rintro en w1 ⟨rfl, rfl⟩)
        obtain ⟨V, hV, v4, ⟨s0, s1, s2, s3, s4, sf⟩, vB, vW⟩ := HG.out
        rw [← hV]
        clear hV
        replace vB := Aside0.mk (And.intro vB vW)
        clear vW
        go_wp2_with fail
        (try simp only [Exit.inBlock, Exit.then])
        refine plc5_close rfl vB.out.1 (Nat.le_succ _) vB.out.2 (fun W' hb' => ?_) _ rfl rfl rfl
        rw [HS.out]
        exact ⟨0, 0, 0, none, 0, 0, none, 0, 0, false, rfl, hb', ⟨rfl⟩⟩
      | some i =>
        rw [hbk] at hst CB
        simp only [] at hst
        unfold OptI at CB
        by_cases hik : i < ks.length
        · have hq : ks[i]? = some ks[i] := List.getElem?_eq_getElem hik
          rw [hq] at hst
          have HS := Aside0.mk hst
          have HQ := Aside0.mk hq
          have hik2 : (i : Int) < (ks.length : Int) := by omega
          clear hst CN h6 hbk hq h5
          go_enter Tryd.func25, Tryd.ntmps25
          go_upto_region 9 with (go_at_call 34; refine (CB.out _).mono ?_; rintro en w1 ⟨rfl, rfl⟩)
          obtain ⟨V, hV, v4, ⟨s0, s1, s2, s3, s4, sf⟩, vB, vW⟩ := HG.out
          rw [← hV]
          clear hV
          replace vB := Aside0.mk (And.intro vB vW)
          clear vW
          obtain ⟨g, k', b', e', na', nn', nc', ka', kn', kc', rfl, hK⟩ := HK.out i _ HQ.out
          replace hK := Aside0.mk hK
          obtain ⟨c0, c1, c2, c3, c4⟩ := (hK.out V vB.out.2).1
          go_wp2_with fail
          (try simp only [Exit.inBlock, Exit.then])
          refine plc5_close rfl vB.out.1 (Nat.le_succ _) vB.out.2 (fun W' hb' => ?_) _ rfl rfl rfl
          rw [HS.out]
          exact ⟨k', b', e', na', nn', nc', ka', kn', kc', true, rfl, hb', ⟨rfl, (hK.out W' hb').2⟩⟩
        · have hq : ks[i]? = none := List.getElem?_eq_none (by omega)
          rw [hq] at hst
          have HS := Aside0.mk hst
          have hik2 : ¬ (i : Int) < (ks.length : Int) := by omega
          clear hst CN HK h6 hbk hq h5
          go_enter Tryd.func25, Tryd.ntmps25
          go_upto_region 9 with (go_at_call 34; refine (CB.out _).mono ?_; rintro en w1 ⟨rfl, rfl⟩)
          obtain ⟨V, hV, v4, ⟨s0, s1, s2, s3, s4, sf⟩, vB, vW⟩ := HG.out
          rw [← hV]
          clear hV
          replace vB := Aside0.mk (And.intro vB vW)
          clear vW
          go_wp2_with fail
          (try simp only [Exit.inBlock, Exit.then])
          refine plc5_close rfl vB.out.1 (Nat.le_succ _) vB.out.2 (fun W' hb' => ?_) _ rfl rfl rfl
          rw [HS.out]
          exact ⟨0, 0, 0, none, 0, 0, none, 0, 0, false, rfl, hb', ⟨rfl⟩⟩
    · rw [if_neg h5] at hst
      have HS := Aside0.mk hst
      have h5b : ((kd : Int) == 5) = false := by simp; omega
      clear hst CN CB HK h6 h5
      go_enter Tryd.func25, Tryd.ntmps25
      go_upto_region 9 with fail
      obtain ⟨V, hV, v4, ⟨s0, s1, s2, s3, s4, sf⟩, vB, vW⟩ := HG.out
      rw [← hV]
      clear hV
      replace vB := Aside0.mk (And.intro vB vW)
      clear vW
      go_wp2_with fail
      (try simp only [Exit.inBlock, Exit.then])
      refine plc5_close rfl vB.out.1 (Nat.le_succ _) vB.out.2 (fun W' hb' => ?_) _ rfl rfl rfl
      rw [HS.out]
      exact ⟨0, 0, 0, none, 0, 0, none, 0, 0, false, rfl, hb', ⟨rfl⟩⟩
end Go.Proofs.YtpahejmkidhhhaaDoor.G
end
