/- The reference's Tidy. -/
import Derived.Test.YtmomjgkbimeeoaaGvAu
namespace Go.Proofs.Ytmomjgkbimeeoaa.G
set_option linter.unusedVariables false
set_option linter.unusedSimpArgs false
open Go.RowKit Go.Proofs.YtmomjgkbimeeoaaW.PrintWords

theorem str_nil {t : ByteArray} : t.toList = [] ↔ t = noStr := by
  constructor
  · intro h
    by_cases e : t = noStr
    · exact e
    · have := toList_ne e
      rw [h] at this
      rw [ByteArray.toList_eq] at this
      cases this
  · intro h
    subst h
    rw [ByteArray.toList_eq]
    rfl
set_option maxHeartbeats 16000000 in
set_option maxRecDepth 100000 in
theorem tidy_calls (N : Nat) : ∀ (n : Nd), n.sz ≤ N → Ro n → ∀ (k' : Int) (t' : ByteArray) (kA' : Option Addr) (kn' kc' : Nat) (nA' : Option Addr) (nn' nc' : Nat) (w : World), NdAt w (fun _ => True) n [.int .i64 k', .string t', .slice kA' kn' kc', .slice nA' nn' nc'] →
    Calls Try.prog 9 #[.agg #[.int .i64 k', .string t', .slice kA' kn' kc', .slice nA' nn' nc']] w (BoolA (Td n) w) := by
  induction N with
  | zero => intro n hn; cases n; simp [Nd.sz] at hn
  | succ N IH =>
    rintro ⟨k, t, ks, kids⟩ hn hro k' t' kA' kn' kc' nA' nn' nc' w hat
    obtain ⟨kA, kc, nA, nc, hcs, hkc, hnc, hkeys, hks, hkids⟩ := hat.open
    simp only [List.cons.injEq, and_true, Value.int.injEq, Value.string.injEq, Value.slice.injEq, true_and] at hcs
    obtain ⟨e1, e2, ⟨e3, e4, e5⟩, e6, e7, e8⟩ := hcs
    obtain rfl := e1.symm; obtain rfl := e2.symm; obtain rfl := e3.symm; obtain rfl := e4.symm; obtain rfl := e5.symm; obtain rfl := e6.symm; obtain rfl := e7.symm; obtain rfl := e8.symm
    unfold Ro at hro
    have hkl : ks.length ≤ 140737488351232 := by have := hro.1.2.1; omega
    have hnl : kids.length ≤ 140737488351232 := by have := hro.1.1; omega
    have HT := Aside0.mk (fun W => isNum_calls t W hro.1.2.2.1)
    unfold BoolA at HT
    have HI := Aside0.mk (fun i (hi : i < kids.length) k' t' kA' kn' kc' nA' nn' nc' W (hAt : NdAt W (fun _ => True) kids[i] [.int .i64 k', .string t', .slice kA' kn' kc', .slice nA' nn' nc']) => IH kids[i] (by have := Nd.sz_kid (k := k) (t := t) (ks := ks) (List.getElem_mem hi); omega) (ros_iff.1 hro.2 _ (List.getElem_mem hi)) k' t' kA' kn' kc' nA' nn' nc' W hAt)
    have HK := Aside0.mk hkids
    have HRO0 := Aside0.mk (RO.start w (.cells #[.int .i64 k, .string t, .slice kA ks.length kc, .slice nA kids.length nc] 25))
    clear hat hkeys hks hkids hro IH hn
    go_enter Try.func9, Try.ntmps9
    go_upto_region 1 with fail
    generalize (w.alloc (.cells #[.int .i64 k, .string t, .slice kA ks.length kc, .slice nA kids.length nc] 25)) = W0 at HRO0 ⊢
    obtain ⟨x0, x1, x2, x3, xf⟩ := nd_cells HRO0.out.box
    go_upto_region 16 with (first | (go_at_call 17; refine (HT.out _).mono ?_; rintro e w1 ⟨b, rfl, hb1, hB⟩; have HR1 := Aside0.mk (HRO0.out.next hb1); obtain ⟨y0, y1, y2, y3, yf⟩ := nd_cells HR1.out.box; clear hb1; cases b))
    all_goals (try have HRO0 := HR1)
    all_goals (try clear x0 x1 x2 x3 xf)
    all_goals (try clear y0 y1 y2 y3 yf)
    all_goals (try (rename ks = [] => hx; have H0 := Aside0.mk hx; clear hx))
    all_goals (try (rename ¬ ks = [] => hx; have H0 := Aside0.mk hx; clear hx))
    all_goals (try (rename t.toList = [] => hx; have H1 := Aside0.mk hx; clear hx))
    all_goals (try (rename ¬ t.toList = [] => hx; have H1 := Aside0.mk hx; clear hx))
    all_goals
      go_wp2_with fail
      go_loopw [3, 4] (fun v3 v4 wr => ∃ (b : Bool) (i : Nat), v3 = .bool b ∧ v4 = .int .i64 (i : Int) ∧ i ≤ kids.length ∧ Aside0 ((b = true → Td1 k t ks kids ∧ ∀ j (hj : j < kids.length), j < i → Td kids[j]) ∧ RO w wr (.cells #[.int .i64 k, .string t, .slice kA ks.length kc, .slice nA kids.length nc] 25))) (fun _ v4 _ => kids.length - (intOf v4).toNat)
      case atStart =>
        refine ⟨_, 0, rfl, rfl, Nat.zero_le _, ⟨fun hb => ⟨?_, fun j hj h => by omega⟩, HRO0.out⟩⟩
        clear HT HI HK HRO0 hkc hnc hkl hnl
        try have h0 := H0.out
        try have h1 := H1.out
        try have hB := hB.out
        first
          | (cases hb; done)
          | (unfold Td1; simp_all [str_nil]; done)
          | (unfold Td1; simp_all [str_nil]; omega)
      case round =>
        obtain ⟨b, i, rfl, rfl, hi2, HR2⟩ := hrel
        obtain ⟨x0, x1, x2, x3, xf⟩ := nd_cells HR2.out.2.box
        cases b
        · go_wp2_with fail
          go_ret
          exact ⟨false, rfl, HR2.out.2.below, ⟨fun h => by cases h⟩⟩
        · by_cases hlt2 : i < kids.length
          · obtain ⟨g, o, k2, t2, kA2, kn2, kc2, nA2, nn2, nc2, rfl, _, hgl, hkat, z0, z1, z2, z3⟩ := HK.out i hlt2
            have hbw := HR2.out.2.below
            rw [← hbw.cell (p := ⟨g, o + i * 4, none⟩) hgl] at z0
            rw [← hbw.cell (p := ⟨g, o + i * 4 + 1, none⟩) hgl] at z1
            rw [← hbw.cell (p := ⟨g, o + i * 4 + 2, none⟩) hgl] at z2
            rw [← hbw.cell (p := ⟨g, o + i * 4 + 3, none⟩) hgl] at z3
            have HC := Aside0.mk (HI.out i hlt2 k2 t2 kA2 kn2 kc2 nA2 nn2 nc2 _ (hkat.below hbw))
            unfold BoolA at HC
            clear hkat hbw
            go_wp2_with (first | (go_at_call 9; refine HC.out.mono ?_; rintro e w1 ⟨b, rfl, hb1, hB⟩))
            go_roundw
            case rel =>
              refine ⟨b, i + 1, rfl, by go_num, by omega, ⟨fun h => ⟨(HR2.out.1 (by trivial)).1, fun j hj h1 => ?_⟩, HR2.out.2.next hb1⟩⟩
              by_cases e : j = i
              · subst e; exact hB.out h
              · exact (HR2.out.1 (by trivial)).2 j hj (by omega)
            case measure => simp [intOf]; omega
          · obtain rfl : i = kids.length := by omega
            go_wp2_with fail
            go_ret
            refine ⟨true, rfl, HR2.out.2.below, ⟨fun _ => ?_⟩⟩
            unfold Td
            refine ⟨(HR2.out.1 (by trivial)).1, tds_iff.2 (fun a ha => ?_)⟩
            obtain ⟨j, hj, rfl⟩ := List.getElem_of_mem ha
            exact (HR2.out.1 (by trivial)).2 j hj hj
end Go.Proofs.Ytmomjgkbimeeoaa.G
