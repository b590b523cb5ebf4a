/- Get behind Set: FnJpSetGet's walk. -/
import Derived.Test.YtpahejmkidhhhaaDoorGvRf
import Derived.Test.YtpahejmkidhhhaaDoorGvSf
import Derived.Test.YtpahejmkidhhhaaDoorGvPu
namespace Go.Proofs.YtpahejmkidhhhaaDoor.G
set_option linter.unusedVariables false
set_option linter.unusedSimpArgs false
open Go.RowKit Go.Proofs.YtpahejmkidhhhaaDoorW.PrintWords

theorem seek_lt {T : List Int} {K : List ByteArray} {a k : Nat} {p q : Pl} (hK : K ≠ []) (hv : V a (T.drop a) = some (p, k)) (hs : seekP T p K = some q) : q.e < a + k := by
  match K, hK with
  | key :: K, _ =>
    rw [seekP] at hs
    cases hm : stepP T p key with
    | none => rw [hm] at hs; cases hs
    | some m =>
      rw [hm] at hs
      simp only [] at hs
      obtain ⟨hi, _, hlt⟩ := step_in hv hm
      have hl := hi.lt
      have h := seek_in K m.b (m.e - m.b) m q hi.v (by rw [show m.b + (m.e - m.b) = m.e by omega]; exact hi.dl) hs
      have := h.hi
      omega
def putX (S V : ByteArray) (b e : Nat) : List Int := (bytesOf S).take b ++ bytesOf V ++ (bytesOf S).drop e
theorem putX_ok (S V : ByteArray) (b e : Nat) : Bytes (putX S V b e) := fun x hx => by
  unfold putX at hx
  rcases List.mem_append.1 hx with hx | hx
  · rcases List.mem_append.1 hx with hx | hx
    · exact bytes_ok S x (List.mem_of_mem_take hx)
    · exact bytes_ok V x hx
  · exact bytes_ok S x (List.mem_of_mem_drop hx)
theorem putX_ext {S V out : ByteArray} {b e i j : Nat} (hb : b ≤ S.size) (ho : bytesOf out = putX S V b e) (hj : j ≤ V.size) (hij : i ≤ j) : out.extract (b + i) (b + j) = V.extract i j := by
  apply bytesOf_inj
  rw [ext_list, ext_list]
  show ((bytesOf out).drop (b + i)).take (b + j - (b + i)) = ((bytesOf V).drop i).take (j - i)
  have hlt : ((bytesOf S).take b).length = b := by rw [List.length_take, bytesOf_length]; omega
  rw [ho, show b + j - (b + i) = j - i by omega]
  unfold putX
  rw [← List.drop_drop, List.append_assoc, List.drop_left' hlt, List.drop_append_of_le_length (by rw [bytesOf_length]; omega), List.take_append_of_le_length (by rw [List.length_drop, bytesOf_length]; omega)]
theorem set_plain {S V : ByteArray} {K : List ByteArray} {p q pv : Pl} (hS : S.size ≤ 2147483647) (hV : V.size ≤ 2147483647) (hJ : J (bytesOf S) = some p) (hq : seekP (bytesOf S) p K = some q) (hK : K ≠ []) (hv : J (bytesOf V) = some pv) :
    (q.b ≤ q.e ∧ q.e + 1 ≤ S.size ∧ 1 ≤ V.size) ∧ ((ig (bytesOf S) (sks K (bytesOf S))).er = 0 ∧ (ig (bytesOf S) (sks K (bytesOf S))).so = (q.b : Int) ∧ (ig (bytesOf S) (sks K (bytesOf S))).en = (q.e : Int)) ∧
    (pv.kd ≤ 6 ∧ pv.b ≤ pv.e ∧ pv.e ≤ V.size ∧ (pv.kd = 4 → pv.b + 2 ≤ pv.e)) ∧
    ∀ out, bytesOf out = putX S V q.b q.e → out.size ≤ 140737488351232 ∧ ∀ w en w', JGA (bytesOf out) (ig (bytesOf out) (sks K (bytesOf out))) w en w' → en = .returned (.tuple #[.agg #[.string ⟨#[]⟩, .string (rawS V pv.kd pv.b pv.e), .int .i64 (jk pv.kd), .int .i64 ((q.b + pv.e : Nat) : Int)], .bool true]) ∧ Below w.heap.size w w' := by
  have hSl := bytesOf_length S
  have hVl := bytesOf_length V
  obtain ⟨hin, hgood, _⟩ := find_top (c := (bytesOf S).length) (by omega) hJ hq (Nat.le_refl _)
  obtain ⟨hbT, kd, k, ns, ks, rfl, _, _, _, hk, hVT⟩ := J_gt hJ
  have hlt := seek_lt hK hVT hq
  have hbe := hin.lt
  obtain ⟨r, hr1, hr2, hr3⟩ := hgood (by omega) (.inl rfl)
  clear hgood
  have hig := good_ig hin (c := (bytesOf S).length) (by omega) (Nat.le_refl _) hr2
  rw [List.take_length] at hr1 hig
  rw [← hr1] at hig
  -- the value put
  obtain ⟨hinv, _, _⟩ := find_top (K := []) (q := pv) (c := (bytesOf V).length) (by omega) hv rfl (Nat.le_refl _)
  have hkv := kd6 hinv
  have hvlo := hinv.lo
  have hvlt := hinv.lt
  have hvhi := hinv.hi
  have hvb := bl_le (bytesOf V)
  refine ⟨⟨by omega, by omega, by omega⟩, ?_, ⟨hkv.1, by omega, by omega, hkv.2⟩, fun out ho => ?_⟩
  · rw [hig]
    by_cases h : q.kd = 4
    · rw [if_pos h]; exact ⟨rfl, rfl, rfl⟩
    · rw [if_neg h]; exact ⟨rfl, rfl, rfl⟩
  · have hol : out.size = q.b + V.size + (S.size - q.e) := by
      have := congrArg List.length ho
      unfold putX at this
      rw [bytesOf_length, List.length_append, List.length_append, List.length_take, List.length_drop, hSl, hVl] at this
      omega
    refine ⟨by omega, fun w en w' h => ?_⟩
    obtain ⟨p', q', hJ', hq', hkd', hb', he'⟩ := put_top (by omega) hJ hq hK hv
    have ho' := ho
    unfold putX at ho'
    rw [← ho'] at hJ' hq'
    have hol' := bytesOf_length out
    obtain ⟨hin', hgood', _⟩ := find_top (c := (bytesOf out).length) (by omega) hJ' hq' (Nat.le_refl _)
    have hhi' := hin'.hi
    have hlo' := hin'.lo
    have hlt' := hin'.lt
    obtain ⟨r', s1, s2, s3⟩ := hgood' (by omega) (.inl rfl)
    clear hgood'
    have hig' := good_ig hin' (c := (bytesOf out).length) (by omega) (Nat.le_refl _) s2
    rw [List.take_length] at s1 hig'
    rw [← s1] at hig'
    have hk' := kd6 hin'
    have hJG := jga_true (S := out) (c := out.size) (kd := q'.kd) (b := q'.b) (e := q'.e) hig' (by rw [← hol', List.take_length]) hk'.2 (by omega) h
    have hraw : rawS out q'.kd q'.b q'.e = rawS V pv.kd pv.b pv.e := by
      rw [hkd', hb', he']
      unfold rawS
      by_cases h4 : pv.kd = 4
      · rw [if_pos h4, if_pos h4]
        have := hkv.2 h4
        have e1 : q.b + pv.e - 1 = q.b + (pv.e - 1) := by omega
        rw [Nat.add_assoc, e1]
        exact putX_ext (by omega) ho (by omega) (by omega)
      · rw [if_neg h4, if_neg h4]
        exact putX_ext (by omega) ho (by omega) (by omega)
    unfold JgT at hJG
    rw [hraw, hkd', he'] at hJG
    exact hJG
theorem plat_kbe {w : World} {F : Nat → Prop} {t : Pl} {k b e : Int} {x y : Value} (h : PlAt w F t [.int .i64 k, .int .i64 b, .int .i64 e, x, y]) : k = t.kd ∧ b = t.b ∧ e = t.e := by
  obtain ⟨kd, b0, e0, ns, ks⟩ := t
  unfold PlAt at h
  obtain ⟨_, _, _, h1, _⟩ := h
  simp only [List.cons.injEq, Value.int.injEq, true_and] at h1
  exact ⟨h1.1, h1.2.1, h1.2.2.1⟩
set_option maxHeartbeats 16000000 in
set_option maxRecDepth 100000 in
theorem setget_walk (E : Nat → Value) (S V : ByteArray) (K : List ByteArray) (ka : Option Addr) (kn kc : Nat) (w : World) (hG : GL E w) (hW : SW w E) (hP : ErP w E) (hs : S.size ≤ 140737488351232) (hsv : V.size ≤ 140737488351232) (hkl : K.length = kn) (hkm : kn ≤ 9223372036854775807) (hkc : kn ≤ kc) (hka : KeysAt w ka K) :
    Calls Tryd.prog 8 #[.string S, .string V, .slice ka kn kc] w fun e w' => e = .returned (.bool true) ∧ Below w.heap.size w w' := by
  have CF := Aside0.mk (fits1_calls K ka kn kc w (by omega) hkl hka)
  rcases Decidable.em (2147483647 < S.size) with hg | hg
  · clear hkl hka hG hW hP
    go_enter Tryd.func8, Tryd.ntmps8
    go_wp2
    go_ret
    exact ⟨rfl, Below.refl _ _⟩
  rcases Decidable.em (2147483647 < V.size) with hg2 | hg2
  · clear hkl hka hG hW hP
    go_enter Tryd.func8, Tryd.ntmps8
    go_wp2
    go_ret
    exact ⟨rfl, Below.refl _ _⟩
  have HG := Aside0.mk hG
  have HW := Aside0.mk hW
  have HKL := Aside0.mk hkl
  have HKA := Aside0.mk hka
  have CJ := Aside0.mk (fun (hks : K.length ≤ 2147483647 ∧ ∀ x ∈ K, x.size ≤ 2147483647) => jpFound_calls S K ka kn kc w (by omega) hkl (by omega) hks.2 hka)
  have CG := Aside0.mk (fun (hks : K.length ≤ 2147483647 ∧ ∀ x ∈ K, x.size ≤ 2147483647) (s : ByteArray) (hs2 : s.size ≤ 140737488351232) W (hb : Below w.heap.size w W) => get_any E s K ka kn kc W (hG.below hb) (hW.below hb) hs2 hkl (by omega) hkc hks.2 (hka.below hb))
  obtain ⟨o, ho⟩ : ∃ o, o = jpo V := ⟨_, rfl⟩
  have CP := fun W => jpPlaces_calls V W (by omega)
  rw [← ho] at CP
  have CP := Aside0.mk CP
  have HO := Aside0.mk ho
  clear hkl hka hG hW hP ho
  cases o with
  | none =>
    go_enter Tryd.func8, Tryd.ntmps8
    go_wp2_with (first
      | (go_at_call 14; refine (CP.out _).mono ?_; rintro en w2 ⟨k2, b2, e2, na2, nn2, nc2, ka2, kn2, kc2, ok2, rfl, hb2, hA2⟩; obtain rfl : ok2 = false := hA2.out; clear hA2)
      | (go_at_call 10; refine (CJ.out (hb.out (by trivial))).mono ?_; rintro en w1 ⟨k', b', e', na', nn', nc', ka', kn', kc', ok, rfl, hb1, hA⟩; cases ok)
      | (go_at_call 9; refine CF.out.mono ?_; rintro e w1 ⟨b, rfl, rfl, hb⟩; cases b))
    all_goals (go_ret; first | exact ⟨rfl, Below.refl _ _⟩ | exact ⟨rfl, (below_step (hb1.alloc hb1.size _) hb2).alloc (below_step (hb1.alloc hb1.size _) hb2).size _⟩)
  | some pv =>
    rcases Nat.eq_zero_or_pos kn with hz | hz
    · subst hz
      go_enter Tryd.func8, Tryd.ntmps8
      go_wp2_with (first
        | (go_at_call 14; refine (CP.out _).mono ?_; rintro en w2 ⟨k2, b2, e2, na2, nn2, nc2, ka2, kn2, kc2, ok2, rfl, hb2, hA2⟩; obtain ⟨rfl, _⟩ := hA2.out; clear hA2)
        | (go_at_call 10; refine (CJ.out (hb.out (by trivial))).mono ?_; rintro en w1 ⟨k', b', e', na', nn', nc', ka', kn', kc', ok, rfl, hb1, hA⟩; cases ok)
        | (go_at_call 9; refine CF.out.mono ?_; rintro e w1 ⟨b, rfl, rfl, hb⟩; cases b))
      all_goals (go_ret; first | exact ⟨rfl, Below.refl _ _⟩ | exact ⟨rfl, (below_step (hb1.alloc hb1.size _) hb2).alloc (below_step (hb1.alloc hb1.size _) hb2).size _⟩)
    · have HZ := Aside0.mk hz
      have hkz : ((kn : Int) == 0) = false := by simp; omega
      clear hz
      go_enter Tryd.func8, Tryd.ntmps8
      go_upto_region 7 with (first
        | (go_at_call 14; refine (CP.out _).mono ?_; rintro en w2 ⟨k2, b2, e2, na2, nn2, nc2, ka2, kn2, kc2, ok2, rfl, hb2, hA2⟩; obtain ⟨rfl, hPA⟩ := hA2.out; obtain ⟨rfl, rfl, rfl⟩ := plat_kbe hPA; clear hA2 hPA)
        | (go_at_call 10; refine (CJ.out (hb.out (by trivial))).mono ?_; rintro en w1 ⟨k', b', e', na', nn', nc', ka', kn', kc', ok, rfl, hb1, hA⟩; cases ok; rotate_left; obtain ⟨p, q, hp, hq, rfl, rfl, rfl⟩ := hA.out (by trivial); have HPQ := Aside0.mk (And.intro hp hq); clear hp hq hA; rotate_right)
        | (go_at_call 9; refine CF.out.mono ?_; rintro e w1 ⟨b, rfl, rfl, hb⟩; cases b))
      all_goals try (go_ret; first | exact ⟨rfl, Below.refl _ _⟩ | exact ⟨rfl, (below_step (hb1.alloc hb1.size _) hb2).alloc (below_step (hb1.alloc hb1.size _) hb2).size _⟩)
      have hbf := Aside0.mk (hb.out (by trivial))
      have hz0 := heap_alloc_new w2 (.cells #[.int .i64 (pv.kd : Int), .int .i64 (pv.b : Int), .int .i64 (pv.e : Int), .slice na2 nn2 nc2, .slice ka2 kn2 kc2] 27)
      have hbV := (below_step (hb1.alloc hb1.size _) hb2).alloc (below_step (hb1.alloc hb1.size _) hb2).size (.cells #[.int .i64 (pv.kd : Int), .int .i64 (pv.b : Int), .int .i64 (pv.e : Int), .slice na2 nn2 nc2, .slice ka2 kn2 kc2] 27)
      generalize (w2.alloc (.cells #[.int .i64 (pv.kd : Int), .int .i64 (pv.b : Int), .int .i64 (pv.e : Int), .slice na2 nn2 nc2, .slice ka2 kn2 kc2] 27)) = U at hz0 hbV ⊢
      generalize w2.heap.size = hh at hz0 ⊢
      have hne : K ≠ [] := by
        intro h
        have h1 := HKL.out
        have h2 := HZ.out
        rw [h] at h1
        simp at h1
        omega
      obtain ⟨⟨p1, p2, p3⟩, p4, ⟨p5, p6, p7, p8⟩, p9⟩ := set_plain (S := S) (V := V) (by omega) (by omega) (jpo_J HPQ.out.1) HPQ.out.2 hne (jpo_J HO.out.symm)
      have CS := jpSet_calls E (putX S V q.b q.e) S V (.slice ka kn kc) U (HG.out.below hbV) hs hsv (putX_ok _ _ _ _) (fun W h c h2 c2 hb hGW hr hc hr2 hc2 => by
        obtain ⟨d, hd⟩ : ∃ d, S.size = q.e + d := ⟨S.size - q.e, by omega⟩
        have hkb := hbf.out
        have := set1_calls E (ig (bytesOf S) (sks K (bytesOf S))) q.b q.e d V.size h 0 c h2 0 c2 ka kn kc (bytesOf S) (bytesOf V) W hr hr2 (by rw [bytesOf_length]; exact hd) (bytesOf_length V) (by rw [← hd]; exact hs) hsv p1 (by omega) p3 (by rw [← hd]; exact hc) hc2 HZ.out p4 (fun W' hb' => iget_calls E K ka kn kc h 0 (q.e + d) c (bytesOf S) W' HKL.out (by have := hkb.1; rw [HKL.out] at this; omega) (fun x hx => by have := hkb.2 x hx; omega) hkc (HKA.out.below (below_step (below_step hbV hb) hb')) (HW.out.below (below_step (below_step hbV hb) hb')) (hr.below hb') (bytes_ok S) (by rw [bytesOf_length]; exact hd) (by rw [← hd]; exact hs) (by rw [← hd]; exact hc))
        rw [← hd] at this
        exact this)
      unfold JsetA at CS
      have CS := Aside0.mk CS
      have P9 := Aside0.mk p9
      have CK := Aside0.mk (jpKind_calls pv.kd p5)
      have CR := Aside0.mk (fun W => raw_calls V pv.kd pv.b pv.e (.slice na2 nn2 nc2) (.slice ka2 kn2 kc2) W hsv p6 p7 p8 ⟨_, _, _, rfl⟩ ⟨_, _, _, rfl⟩)
      have HZ0 := Aside0.mk hz0
      have HBV := Aside0.mk hbV
      clear p1 p2 p3 p4 p5 p6 p7 p8 p9 hne hz0 hbV hb1 hb2
      go_upto_region 9 with (first
        | (go_at_call 11; refine (CG.out hbf.out out (P9.out out ho.out).1 _ (below_step HBV.out hb3)).mono ?_; intro en w4 h; obtain ⟨rfl, hb4⟩ := (P9.out out ho.out).2 _ _ _ h; clear h)
        | (go_at_call 20; refine CS.out.mono ?_; rintro en w3 ⟨out, rfl, ho, hb3⟩))
      have hbY0 := below_step hb3 hb4
      have h7 : w4.heap[hh]? = some _ := (hbY0.block hh (Array.getElem?_eq_some_iff.1 HZ0.out).1).trans HZ0.out
      have hlt2 : hh < w4.heap.size := Nat.lt_of_lt_of_le (Array.getElem?_eq_some_iff.1 HZ0.out).1 hbY0.size
      have h15 := heap_alloc_new w4 (.cells #[.string ⟨#[]⟩, .string (rawS V pv.kd pv.b pv.e), .int .i64 (jk pv.kd), .int .i64 ((q.b : Int) + (pv.e : Int))] 31)
      have h7u := (Below.heap_alloc w4 (.cells #[.string ⟨#[]⟩, .string (rawS V pv.kd pv.b pv.e), .int .i64 (jk pv.kd), .int .i64 ((q.b : Int) + (pv.e : Int))] 31) hh hlt2).trans h7
      have hbY := (below_step HBV.out hbY0).alloc (below_step HBV.out hbY0).size (.cells #[.string ⟨#[]⟩, .string (rawS V pv.kd pv.b pv.e), .int .i64 (jk pv.kd), .int .i64 ((q.b : Int) + (pv.e : Int))] 31)
      have hsY := World.size_alloc w4 (.cells #[.string ⟨#[]⟩, .string (rawS V pv.kd pv.b pv.e), .int .i64 (jk pv.kd), .int .i64 ((q.b : Int) + (pv.e : Int))] 31)
      generalize (w4.alloc (.cells #[.string ⟨#[]⟩, .string (rawS V pv.kd pv.b pv.e), .int .i64 (jk pv.kd), .int .i64 ((q.b : Int) + (pv.e : Int))] 31)) = Y at h15 h7u hbY hsY ⊢
      generalize w4.heap.size = gg at h15 hlt2 hsY ⊢
      have HQ : ∀ W, Below Y.heap.size Y W → (W.cell? ⟨gg, 1, none⟩ = some (.string (rawS V pv.kd pv.b pv.e)) ∧ W.cell? ⟨gg, 2, none⟩ = some (.int .i64 (jk pv.kd))) ∧
          (W.cell? ⟨hh, 0, none⟩ = some (.int .i64 (pv.kd : Int)) ∧ W.cell? ⟨hh, 1, none⟩ = some (.int .i64 (pv.b : Int)) ∧ W.cell? ⟨hh, 2, none⟩ = some (.int .i64 (pv.e : Int)) ∧ W.cell? ⟨hh, 3, none⟩ = some (.slice na2 nn2 nc2) ∧ W.cell? ⟨hh, 4, none⟩ = some (.slice ka2 kn2 kc2)) := fun W hb => by
        have h3 : W.heap[gg]? = some _ := (hb.block _ (by omega)).trans h15
        have h2 : W.heap[hh]? = some _ := (hb.block _ (by omega)).trans h7u
        exact ⟨⟨blk_cell h3 rfl, blk_cell h3 rfl⟩, blk_cell h2 rfl, blk_cell h2 rfl, blk_cell h2 rfl, blk_cell h2 rfl, blk_cell h2 rfl⟩
      have HQ := Aside0.mk HQ
      have HBW := Aside0.mk hbY
      obtain ⟨⟨q1, q2⟩, r0, r1, r2, r3, r4⟩ := HQ.out Y (Below.refl _ _)
      clear h7 hlt2 h15 h7u hbY hsY hbY0 hb3 hb4
      go_region_with (first | (go_at_call 22; refine (CK.out _).mono ?_; rintro en w1 ⟨rfl, rfl⟩) | (go_at_call 23; refine (CR.out _).mono ?_; rintro en w1 ⟨rfl, hbr⟩; (first | (have hb' := Aside0.mk (HQ.out w1 (below_step (Below.refl _ _) hbr))) | (have hb' := Aside0.mk (HQ.out w1 (below_step (Below.refl _ _).drew hbr))) | (have hb' := Aside0.mk (HQ.out w1 (below_step (Below.refl _ _).drew.drew hbr))) | (have hb' := Aside0.mk (HQ.out w1 (below_step (Below.refl _ _).drew.drew.drew hbr)))); obtain ⟨⟨p1, p2⟩, s0, s1, s2, s3, s4⟩ := hb'.out))
      all_goals go_wp2_with fail
      all_goals go_ret
      all_goals first
        | exact ⟨rfl, below_step HBW.out hbr⟩
        | exact ⟨rfl, below_step HBW.out.drew hbr⟩
        | exact ⟨rfl, below_step HBW.out.drew.drew hbr⟩
        | exact ⟨rfl, below_step HBW.out.drew.drew.drew hbr⟩
end Go.Proofs.YtpahejmkidhhhaaDoor.G
