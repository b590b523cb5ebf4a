/- The reference's Size and Depth. -/
import Derived.Test.YtmomjgkbimeeoaaGvUq
namespace Go.Proofs.Ytmomjgkbimeeoaa.G
set_option linter.unusedVariables false
set_option linter.unusedSimpArgs false
open Go.RowKit Go.Proofs.YtmomjgkbimeeoaaW.PrintWords

/-- Some number is returned. -/
def NumA (w : World) (e : Ending) (w' : World) : Prop := ∃ k : Int, e = .returned (.int .i64 k) ∧ Below w.heap.size w w'
set_option maxHeartbeats 16000000 in
set_option maxRecDepth 100000 in
theorem size_calls (N : Nat) : ∀ (n : Nd), n.sz ≤ N → Ro n → ∀ (k' : Int) (t' : ByteArray) (kA' : Option Addr) (kn' kc' : Nat) (nA' : Option Addr) (nn' nc' : Nat) (w : World), NdAt w (fun _ => True) n [.int .i64 k', .string t', .slice kA' kn' kc', .slice nA' nn' nc'] →
    Calls Try.prog 10 #[.agg #[.int .i64 k', .string t', .slice kA' kn' kc', .slice nA' nn' nc']] w (NumA w) := by
  induction N with
  | zero => intro n hn; cases n; simp [Nd.sz] at hn
  | succ N IH =>
    rintro ⟨k, t, ks, kids⟩ hn hro k' t' kA' kn' kc' nA' nn' nc' w hat
    obtain ⟨kA, kc, nA, nc, hcs, hkc, hnc, hkeys, hks, hkids⟩ := hat.open
    simp only [List.cons.injEq, and_true, Value.int.injEq, Value.string.injEq, Value.slice.injEq, true_and] at hcs
    obtain ⟨e1, e2, ⟨e3, e4, e5⟩, e6, e7, e8⟩ := hcs
    obtain rfl := e1.symm; obtain rfl := e2.symm; obtain rfl := e3.symm; obtain rfl := e4.symm; obtain rfl := e5.symm; obtain rfl := e6.symm; obtain rfl := e7.symm; obtain rfl := e8.symm
    unfold Ro at hro
    have hnl : kids.length ≤ 140737488351232 := by have := hro.1.1; omega
    have HI := Aside0.mk (fun i (hi : i < kids.length) k' t' kA' kn' kc' nA' nn' nc' W (hAt : NdAt W (fun _ => True) kids[i] [.int .i64 k', .string t', .slice kA' kn' kc', .slice nA' nn' nc']) => IH kids[i] (by have := Nd.sz_kid (k := k) (t := t) (ks := ks) (List.getElem_mem hi); omega) (ros_iff.1 hro.2 _ (List.getElem_mem hi)) k' t' kA' kn' kc' nA' nn' nc' W hAt)
    have HK := Aside0.mk hkids
    have HRO0 := Aside0.mk (RO.start w (.cells #[.int .i64 k, .string t, .slice kA ks.length kc, .slice nA kids.length nc] 25))
    clear hat hkeys hks hkids hro IH hn
    go_enter Try.func10, Try.ntmps10
    go_upto_region 1 with fail
    generalize (w.alloc (.cells #[.int .i64 k, .string t, .slice kA ks.length kc, .slice nA kids.length nc] 25)) = W0 at HRO0 ⊢
    go_wp2_with fail
    go_loopw [3, 4] (fun v3 v4 wr => ∃ (i : Nat) (s : Int), v3 = .int .i64 s ∧ v4 = .int .i64 (i : Int) ∧ i ≤ kids.length ∧ Aside0 (RO w wr (.cells #[.int .i64 k, .string t, .slice kA ks.length kc, .slice nA kids.length nc] 25))) (fun _ v4 _ => kids.length - (intOf v4).toNat)
    case atStart => exact ⟨0, _, rfl, rfl, Nat.zero_le _, HRO0⟩
    case round =>
      obtain ⟨i, s, rfl, rfl, hi2, HR2⟩ := hrel
      obtain ⟨x0, x1, x2, x3, xf⟩ := nd_cells HR2.out.box
      by_cases hlt2 : i < kids.length
      · obtain ⟨g, o, k2, t2, kA2, kn2, kc2, nA2, nn2, nc2, rfl, _, hgl, hkat, z0, z1, z2, z3⟩ := HK.out i hlt2
        have hbw := HR2.out.below
        rw [← hbw.cell (p := ⟨g, o + i * 4, none⟩) hgl] at z0
        rw [← hbw.cell (p := ⟨g, o + i * 4 + 1, none⟩) hgl] at z1
        rw [← hbw.cell (p := ⟨g, o + i * 4 + 2, none⟩) hgl] at z2
        rw [← hbw.cell (p := ⟨g, o + i * 4 + 3, none⟩) hgl] at z3
        have HC := Aside0.mk (HI.out i hlt2 k2 t2 kA2 kn2 kc2 nA2 nn2 nc2 _ (hkat.below hbw))
        unfold NumA at HC
        clear hkat hbw
        go_wp2_with (first | (go_at_call 10; refine HC.out.mono ?_; rintro e w1 ⟨b, rfl, hb1⟩))
        go_roundw
        case rel => exact ⟨i + 1, _, rfl, by go_num, by omega, ⟨HR2.out.next hb1⟩⟩
        case measure => simp [intOf]; omega
      · obtain rfl : i = kids.length := by omega
        go_wp2_with fail
        go_ret
        exact ⟨_, rfl, HR2.out.below⟩
set_option maxHeartbeats 16000000 in
set_option maxRecDepth 100000 in
theorem depth_calls (N : Nat) : ∀ (n : Nd), n.sz ≤ N → Ro n → ∀ (k' : Int) (t' : ByteArray) (kA' : Option Addr) (kn' kc' : Nat) (nA' : Option Addr) (nn' nc' : Nat) (w : World), NdAt w (fun _ => True) n [.int .i64 k', .string t', .slice kA' kn' kc', .slice nA' nn' nc'] →
    Calls Try.prog 11 #[.agg #[.int .i64 k', .string t', .slice kA' kn' kc', .slice nA' nn' nc']] w (NumA w) := by
  induction N with
  | zero => intro n hn; cases n; simp [Nd.sz] at hn
  | succ N IH =>
    rintro ⟨k, t, ks, kids⟩ hn hro k' t' kA' kn' kc' nA' nn' nc' w hat
    obtain ⟨kA, kc, nA, nc, hcs, hkc, hnc, hkeys, hks, hkids⟩ := hat.open
    simp only [List.cons.injEq, and_true, Value.int.injEq, Value.string.injEq, Value.slice.injEq, true_and] at hcs
    obtain ⟨e1, e2, ⟨e3, e4, e5⟩, e6, e7, e8⟩ := hcs
    obtain rfl := e1.symm; obtain rfl := e2.symm; obtain rfl := e3.symm; obtain rfl := e4.symm; obtain rfl := e5.symm; obtain rfl := e6.symm; obtain rfl := e7.symm; obtain rfl := e8.symm
    unfold Ro at hro
    have hnl : kids.length ≤ 140737488351232 := by have := hro.1.1; omega
    have HI := Aside0.mk (fun i (hi : i < kids.length) k' t' kA' kn' kc' nA' nn' nc' W (hAt : NdAt W (fun _ => True) kids[i] [.int .i64 k', .string t', .slice kA' kn' kc', .slice nA' nn' nc']) => IH kids[i] (by have := Nd.sz_kid (k := k) (t := t) (ks := ks) (List.getElem_mem hi); omega) (ros_iff.1 hro.2 _ (List.getElem_mem hi)) k' t' kA' kn' kc' nA' nn' nc' W hAt)
    have HK := Aside0.mk hkids
    have HRO0 := Aside0.mk (RO.start w (.cells #[.int .i64 k, .string t, .slice kA ks.length kc, .slice nA kids.length nc] 25))
    clear hat hkeys hks hkids hro IH hn
    go_enter Try.func11, Try.ntmps11
    go_upto_region 1 with fail
    generalize (w.alloc (.cells #[.int .i64 k, .string t, .slice kA ks.length kc, .slice nA kids.length nc] 25)) = W0 at HRO0 ⊢
    obtain ⟨x0, x1, x2, x3, xf⟩ := nd_cells HRO0.out.box
    by_cases h5 : k = 5
    · subst h5
      go_wp2_with fail
      clear x0 x1 x2 x3 xf
      go_loopw [3, 4] (fun v3 v4 wr => ∃ (i : Nat) (s : Int), v3 = .int .i64 s ∧ v4 = .int .i64 (i : Int) ∧ i ≤ kids.length ∧ Aside0 (RO w wr (.cells #[.int .i64 5, .string t, .slice kA ks.length kc, .slice nA kids.length nc] 25))) (fun _ v4 _ => kids.length - (intOf v4).toNat)
      case atStart => exact ⟨0, _, rfl, rfl, Nat.zero_le _, HRO0⟩
      case round =>
        obtain ⟨i, s, rfl, rfl, hi2, HR2⟩ := hrel
        obtain ⟨x0, x1, x2, x3, xf⟩ := nd_cells HR2.out.box
        by_cases hlt2 : i < kids.length
        · obtain ⟨g, o, k2, t2, kA2, kn2, kc2, nA2, nn2, nc2, rfl, _, hgl, hkat, z0, z1, z2, z3⟩ := HK.out i hlt2
          have hbw := HR2.out.below
          rw [← hbw.cell (p := ⟨g, o + i * 4, none⟩) hgl] at z0
          rw [← hbw.cell (p := ⟨g, o + i * 4 + 1, none⟩) hgl] at z1
          rw [← hbw.cell (p := ⟨g, o + i * 4 + 2, none⟩) hgl] at z2
          rw [← hbw.cell (p := ⟨g, o + i * 4 + 3, none⟩) hgl] at z3
          have HC := Aside0.mk (HI.out i hlt2 k2 t2 kA2 kn2 kc2 nA2 nn2 nc2 _ (hkat.below hbw))
          unfold NumA at HC
          clear hkat hbw
          go_wp2_with (first | (go_at_call 11; refine HC.out.mono ?_; rintro e w1 ⟨b, rfl, hb1⟩))
          go_roundw
          case rel => exact ⟨i + 1, _, rfl, by go_num, by omega, ⟨HR2.out.next hb1⟩⟩
          case measure => simp [intOf]; omega
        · obtain rfl : i = kids.length := by omega
          go_wp2_with fail
          go_ret
          exact ⟨_, rfl, HR2.out.below⟩
    · by_cases h6 : k = 6
      · subst h6
        go_wp2_with fail
        clear x0 x1 x2 x3 xf
        go_loopw [3, 4] (fun v3 v4 wr => ∃ (i : Nat) (s : Int), v3 = .int .i64 s ∧ v4 = .int .i64 (i : Int) ∧ i ≤ kids.length ∧ Aside0 (RO w wr (.cells #[.int .i64 6, .string t, .slice kA ks.length kc, .slice nA kids.length nc] 25))) (fun _ v4 _ => kids.length - (intOf v4).toNat)
        case atStart => exact ⟨0, _, rfl, rfl, Nat.zero_le _, HRO0⟩
        case round =>
          obtain ⟨i, s, rfl, rfl, hi2, HR2⟩ := hrel
          obtain ⟨x0, x1, x2, x3, xf⟩ := nd_cells HR2.out.box
          by_cases hlt2 : i < kids.length
          · obtain ⟨g, o, k2, t2, kA2, kn2, kc2, nA2, nn2, nc2, rfl, _, hgl, hkat, z0, z1, z2, z3⟩ := HK.out i hlt2
            have hbw := HR2.out.below
            rw [← hbw.cell (p := ⟨g, o + i * 4, none⟩) hgl] at z0
            rw [← hbw.cell (p := ⟨g, o + i * 4 + 1, none⟩) hgl] at z1
            rw [← hbw.cell (p := ⟨g, o + i * 4 + 2, none⟩) hgl] at z2
            rw [← hbw.cell (p := ⟨g, o + i * 4 + 3, none⟩) hgl] at z3
            have HC := Aside0.mk (HI.out i hlt2 k2 t2 kA2 kn2 kc2 nA2 nn2 nc2 _ (hkat.below hbw))
            unfold NumA at HC
            clear hkat hbw
            go_wp2_with (first | (go_at_call 11; refine HC.out.mono ?_; rintro e w1 ⟨b, rfl, hb1⟩))
            go_roundw
            case rel => exact ⟨i + 1, _, rfl, by go_num, by omega, ⟨HR2.out.next hb1⟩⟩
            case measure => simp [intOf]; omega
          · obtain rfl : i = kids.length := by omega
            go_wp2_with fail
            go_ret
            exact ⟨_, rfl, HR2.out.below⟩
      · have d5 : (k != 5) = true := by simpa using h5
        have d6 : (k != 6) = true := by simpa using h6
        go_wp2_with fail
        go_ret
        exact ⟨_, rfl, HRO0.out.below⟩
end Go.Proofs.Ytmomjgkbimeeoaa.G
