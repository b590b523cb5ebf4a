/- jpIndex, jpFound: where keys lead. Get in a text that is cut off: what it tells; FnJpGetCut's walk. -/
import Derived.Test.YtpahejmkidhhhaaDoorGvOn
import Derived.Test.YtpahejmkidhhhaaDoorGvQ
import Derived.Test.YtpahejmkidhhhaaDoorGvM
import Derived.Test.YtpahejmkidhhhaaDoorGvJw
section
namespace Go.Proofs.YtpahejmkidhhhaaDoor.G
set_option linter.unusedVariables false
set_option linter.unusedSimpArgs false
open Go.RowKit Go.Proofs.YtpahejmkidhhhaaDoorW.PrintWords

def IxA (b : Bool) (w : World) (e : Ending) (w' : World) : Prop := e = .returned (.bool b) ∧ w = w'
theorem jpIndex_calls (S : ByteArray) (w : World) (hs : S.size ≤ 140737488351232) : Calls Tryd.prog 12 #[.string S] w (IxA (isIx S) w) := by
  by_cases h0 : S.size = 0
  · have hS : S = ⟨#[]⟩ := ByteArray.ext (Array.eq_empty_of_size_eq_zero (by simpa using h0))
    subst hS
    have HI : Aside0 (isIx ⟨#[]⟩ = false) := ⟨rfl⟩
    clear h0 hs
    go_enter Tryd.func12, Tryd.ntmps12
    go_wp2
    go_ret
    exact ⟨by rw [HI.out]; rfl, rfl⟩
  · have hne : (S.toList == []) = false := by
      simp only [beq_eq_false_iff_ne, ne_eq]
      intro h
      have h2 : S.data.toList = [] := by rw [← ByteArray.toList_eq]; exact h
      have h3 : S.data.toList.length = 0 := by rw [h2]; rfl
      have h4 : S.data.toList.length = S.size := by simp
      omega
    have hne2 : (S.toList != []) = true := by simpa using hne
    have hpos : 0 < S.size := by omega
    have e0 := at_byte S 0 hpos
    have HI : Aside0 (isIx S = (((S[0]'hpos).toNat : Int) == 91)) := ⟨by unfold isIx; rw [decide_eq_true hpos, e0]; rfl⟩
    clear h0 e0
    by_cases h91 : ((S[0]'hpos).toNat : Int) = 91
    · have HB : Aside0 ((((S[0]'hpos).toNat : Int) == 91) = true) := ⟨by simpa using h91⟩
      go_enter Tryd.func12, Tryd.ntmps12
      go_wp2
      go_ret
      exact ⟨by rw [HI.out, HB.out]; rfl, rfl⟩
    · have HB : Aside0 ((((S[0]'hpos).toNat : Int) == 91) = false) := ⟨by simpa using h91⟩
      have hb := HB.out
      clear h91
      go_enter Tryd.func12, Tryd.ntmps12
      go_wp2
      go_ret
      exact ⟨by rw [HI.out, HB.out]; rfl, rfl⟩
/-- Where keys lead, if the answer is yes. -/
def FndA (S : ByteArray) (K : List ByteArray) (w : World) (en : Ending) (w' : World) : Prop :=
  ∃ (k b e : Int) (na : Option Addr) (nn nc : Nat) (ka : Option Addr) (kn kc : Nat) (ok : Bool), en = .returned (.tuple #[.agg #[.int .i64 k, .int .i64 b, .int .i64 e, .slice na nn nc, .slice ka kn kc], .bool ok]) ∧ Below w.heap.size w w' ∧
    Aside0 (ok = true → ∃ p q, jpo S = some p ∧ seekP (bytesOf S) p K = some q ∧ k = q.kd ∧ b = q.b ∧ e = q.e)
theorem FndA.no {S : ByteArray} {K : List ByteArray} {w w' : World} (hb : Below w.heap.size w w') : FndA S K w (.returned (.tuple #[.agg #[.int .i64 0, .int .i64 0, .int .i64 0, .slice none 0 0, .slice none 0 0], .bool false])) w' :=
  ⟨0, 0, 0, none, 0, 0, none, 0, 0, false, rfl, hb, ⟨fun h => by cases h⟩⟩
theorem jpo_J {S : ByteArray} {p : Pl} (h : jpo S = some p) : J (bytesOf S) = some p := by
  unfold jpo at h
  split at h
  · cases h
  · exact h
theorem jpo_ok {S : ByteArray} {p : Pl} (h : jpo S = some p) : PlOk S p := by
  obtain ⟨_, kd, k, ns, ks, rfl, _, _, _, _, hv⟩ := J_gt (jpo_J h)
  exact ⟨k, hv⟩
set_option maxHeartbeats 16000000 in
set_option maxRecDepth 100000 in
theorem jpFound_calls (S : ByteArray) (K : List ByteArray) (A : Option Addr) (n c : Nat) (w : World) (hS : S.size ≤ 2147483647) (hl : K.length = n) (hn : n ≤ 2147483647) (hs : ∀ x ∈ K, x.size ≤ 2147483647) (hK : KeysAt w A K) :
    Calls Tryd.prog 10 #[.string S, .slice A n c] w (FndA S K w) := by
  have HL := Aside0.mk hl
  have HS := Aside0.mk hs
  have HK := Aside0.mk hK
  obtain ⟨W0, hW0⟩ : ∃ W0, W0 = w.alloc (.cells #[.int .i64 0, .int .i64 0, .int .i64 0, .slice none 0 0, .slice none 0 0] 27) := ⟨_, rfl⟩
  have hb0 : Below w.heap.size w W0 := by rw [hW0]; exact below_alloc1 _
  have hz0 : W0.heap[w.heap.size]? = some (.cells #[.int .i64 0, .int .i64 0, .int .i64 0, .slice none 0 0, .slice none 0 0] 27) := by rw [hW0]; exact heap_alloc_new _ _
  have hs0 : W0.heap.size = w.heap.size + 1 := by rw [hW0, World.size_alloc]
  have CP := jpPlaces_calls S W0 hS
  obtain ⟨o, ho⟩ : ∃ o, o = jpo S := ⟨_, rfl⟩
  rw [← ho] at CP
  have CP := Aside0.mk CP
  have HO := Aside0.mk ho
  have H0 := Aside0.mk (And.intro hb0 (And.intro hz0 hs0))
  have HF : Aside0 (∀ W, Below W0.heap.size W0 W → (W.cell? ⟨w.heap.size, 0, none⟩ = some (.int .i64 0) ∧ W.cell? ⟨w.heap.size, 1, none⟩ = some (.int .i64 0) ∧ W.cell? ⟨w.heap.size, 2, none⟩ = some (.int .i64 0) ∧ W.cell? ⟨w.heap.size, 3, none⟩ = some (.slice none 0 0) ∧ W.cell? ⟨w.heap.size, 4, none⟩ = some (.slice none 0 0) ∧ ∀ j, W.frozen? ⟨w.heap.size, j, none⟩ = false) ∧
      (W.heap[w.heap.size]? = some (.cells #[.int .i64 0, .int .i64 0, .int .i64 0, .slice none 0 0, .slice none 0 0] 27) ∧ Below w.heap.size w W)) := ⟨fun W hb => by
    have h1 : W.heap[w.heap.size]? = some _ := (hb.block _ (by omega)).trans hz0
    exact ⟨⟨blk_cell h1 rfl, blk_cell h1 rfl, blk_cell h1 rfl, blk_cell h1 rfl, blk_cell h1 rfl, fun j => blk_froz h1⟩, h1, below_step hb0 hb⟩⟩
  clear ho hl hs hK hb0 hz0 hs0
  subst hW0
  cases o with
  | none =>
    go_enter Tryd.func10, Tryd.ntmps10
    go_upto_region 2 with (go_at_call 14; refine CP.out.mono ?_; rintro en w1 ⟨k', b', e', na', nn', nc', ka', kn', kc', ok, rfl, hb1, hA1⟩)
    obtain rfl : ok = false := hA1.out
    have hbV := hb1.alloc hb1.size (.cells #[.int .i64 k', .int .i64 b', .int .i64 e', .slice na' nn' nc', .slice ka' kn' kc'] 27)
    generalize (w1.alloc (.cells #[.int .i64 k', .int .i64 b', .int .i64 e', .slice na' nn' nc', .slice ka' kn' kc'] 27)) = V at hbV ⊢
    have hFV := Aside0.mk (HF.out V hbV)
    obtain ⟨⟨z0, z1, z2, z3, z4, zf⟩, _⟩ := hFV.out
    go_wp2_with fail
    (try simp only [Exit.inBlock, Exit.then])
    refine plc5_close rfl hFV.out.2.1 (Nat.le_refl _) hFV.out.2.2 (fun W' hb' => ?_) _ rfl rfl rfl
    exact FndA.no hb'
  | some p =>
    have hpok := Aside0.mk (jpo_ok HO.out.symm)
    go_enter Tryd.func10, Tryd.ntmps10
    go_upto_region 2 with (go_at_call 14; refine CP.out.mono ?_; rintro en w1 ⟨k', b', e', na', nn', nc', ka', kn', kc', ok, rfl, hb1, hA1⟩)
    obtain ⟨rfl, hP⟩ := hA1.out
    obtain ⟨kd0, b0, e0, ns0, ks0, rfl, rfl, rfl, rfl, rfl, rfl⟩ := plat_form hP
    have hO : OB S (w.alloc (.cells #[.int .i64 0, .int .i64 0, .int .i64 0, .slice none 0 0, .slice none 0 0] 27)) (w1.alloc (.cells #[.int .i64 (kd0 : Int), .int .i64 (b0 : Int), .int .i64 (e0 : Int), .slice na' ns0.length nc', .slice ka' ks0.length kc'] 27)) kd0 b0 e0 ns0 ks0 na' nc' ka' kc' w1.heap.size :=
      ⟨heap_alloc_new _ _, plat_below (PlAt.mono (fun g hg _ => by omega) hP) (below_alloc1 _), hpok.out, hb1.alloc hb1.size _⟩
    have hPV : PlAt (w1.alloc (.cells #[.int .i64 (kd0 : Int), .int .i64 (b0 : Int), .int .i64 (e0 : Int), .slice na' ns0.length nc', .slice ka' ks0.length kc'] 27)) (fun _ => True) (.mk kd0 b0 e0 ns0 ks0) _ := plat_below (PlAt.mono (fun g hg _ => trivial) hP) (below_alloc1 _)
    generalize (w1.alloc (.cells #[.int .i64 (kd0 : Int), .int .i64 (b0 : Int), .int .i64 (e0 : Int), .slice na' ns0.length nc', .slice ka' ks0.length kc'] 27)) = V at hO hPV ⊢
    have hhl : Aside0 ((w.alloc (.cells #[.int .i64 0, .int .i64 0, .int .i64 0, .slice none 0 0, .slice none 0 0] 27)).heap.size ≤ w1.heap.size) := ⟨hb1.size⟩
    generalize w1.heap.size = hh at hO hhl ⊢
    have HOV := Aside0.mk hO
    have CO := Aside0.mk (once_calls S kd0 b0 e0 ns0 ks0 na' nc' ka' kc' K A n c V hS hPV hpok.out HL.out hn HS.out (HK.out.below (below_step H0.out.1 hO.below)))
    obtain ⟨r0, r1, r2, r3, r4, rf⟩ := HOV.out.cells
    clear hO hPV hP hA1 hb1
    go_wp2_with (go_at_call 24; refine CO.out.mono ?_; rintro en w2 ⟨ob, rfl, hb2⟩; have O2 := Aside0.mk (HOV.out.next hb2); have hF2 := Aside0.mk (HF.out w2 O2.out.below); obtain ⟨⟨z0, z1, z2, z3, z4, zf⟩, _⟩ := hF2.out; cases ob)
    · (try simp only [Exit.inBlock, Exit.then])
      refine plc5_close rfl hF2.out.2.1 (Nat.le_refl _) hF2.out.2.2 (fun W' hb' => ?_) _ rfl rfl rfl
      exact FndA.no hb'
    · clear r0 r1 r2 r3 r4 rf z0 z1 z2 z3 z4 zf
      go_loopw [27] (fun v27 wr => ∃ (i kd b e : Nat) (ns : List (Nat × Nat)) (ks : List Pl) (nA : Option Addr) (nc : Nat) (kA : Option Addr) (kc : Nat), v27 = .int .i64 (i : Int) ∧ i ≤ n ∧ Aside0 (OB S (w.alloc (.cells #[.int .i64 0, .int .i64 0, .int .i64 0, .slice none 0 0, .slice none 0 0] 27)) wr kd b e ns ks nA nc kA kc hh) ∧ Aside0 (seekP (bytesOf S) (.mk kd0 b0 e0 ns0 ks0) K = seekP (bytesOf S) (.mk kd b e ns ks) (K.drop i))) (fun v27 _ => n - (intOf v27).toNat)
      case atStart => exact ⟨0, _, _, _, _, _, _, _, _, _, rfl, Nat.zero_le _, O2, ⟨by rw [List.drop_zero]⟩⟩
      case round =>
        clear O2 hF2 CO HOV
        obtain ⟨i, kd, b, e, ns, ks, nA, nc, kA, kc, rfl, hi, O, HSK⟩ := hrel
        obtain ⟨r0, r1, r2, r3, r4, rf⟩ := O.out.cells
        by_cases hlt : i < n
        · obtain ⟨a, rfl, hab, hca⟩ := (HK.out.below (below_step H0.out.1 O.out.below)) i (by rw [HL.out]; exact hlt)
          obtain ⟨key, hkey⟩ : ∃ key, key = K.getD i ByteArray.empty := ⟨_, rfl⟩
          have hks : key.size ≤ 2147483647 := by
            rw [hkey]
            refine HS.out _ ?_
            rw [List.getD_eq_getElem?_getD, List.getElem?_eq_getElem (by rw [HL.out]; exact hlt)]
            exact List.getElem_mem _
          have HDK : Aside0 (K.drop i = key :: K.drop (i + 1)) := ⟨by rw [hkey]; exact drop_key (by rw [HL.out]; exact hlt)⟩
          rw [← hkey] at hca
          clear hkey
          have CS := Aside0.mk (fun W (h : OB S (w.alloc (.cells #[.int .i64 0, .int .i64 0, .int .i64 0, .slice none 0 0, .slice none 0 0] 27)) W kd b e ns ks nA nc kA kc hh) => step_calls (fun g => g ≠ hh) S key kd b e ns ks (.slice nA ns.length nc) (.slice kA ks.length kc) W hS (by omega) h.pl h.ok)
          have CI := Aside0.mk (fun W => jpIndex_calls key W (by omega))
          unfold IxA at CI
          by_cases h6 : kd = 6
          · have h6t : ((kd : Int) == 6) = true := by simp; omega
            clear h6
            cases hix : isIx key with
            | true =>
              rw [hix] at CI
              clear hix CS
              have hFR := Aside0.mk (HF.out wr O.out.below)
              obtain ⟨⟨z0, z1, z2, z3, z4, zf⟩, _⟩ := hFR.out
              go_wp2_with (go_at_call 12; refine (CI.out _).mono ?_; rintro en w' ⟨rfl, rfl⟩)
              (try simp only [Exit.inBlock, Exit.then])
              refine plc5_close rfl hFR.out.2.1 (Nat.le_refl _) hFR.out.2.2 (fun W' hb' => ?_) _ rfl rfl rfl
              exact FndA.no hb'
            | false =>
              rw [hix] at CI
              clear hix
              go_upto_region 10 with (first
                | (go_at_call 25; refine (CS.out _ O.out).mono ?_; rintro en w3 ⟨k2, b2, e2, na2, nn2, nc2, ka2, kn2, kc2, ok2, rfl, hb3, hA3⟩; have O3 := Aside0.mk (O.out.next hb3); obtain ⟨r0, r1, r2, r3, r4, rf⟩ := O3.out.cells)
                | (go_at_call 12; refine (CI.out _).mono ?_; rintro en w' ⟨rfl, rfl⟩))
              have T1 := st5 (.int .i64 k2) (.int .i64 b2) (.int .i64 e2) (.slice na2 nn2 nc2) (.slice ka2 kn2 kc2) O3.out.blk
              generalize (((((w3.setCell ⟨hh, 0, none⟩ (.int .i64 k2)).setCell ⟨hh, 1, none⟩ (.int .i64 b2)).setCell ⟨hh, 2, none⟩ (.int .i64 e2)).setCell ⟨hh, 3, none⟩ (.slice na2 nn2 nc2)).setCell ⟨hh, 4, none⟩ (.slice ka2 kn2 kc2)) = U at T1 ⊢
              replace T1 := Aside0.mk T1
              obtain ⟨o2, ho2⟩ : ∃ o, o = stepP (bytesOf S) (.mk kd b e ns ks) key := ⟨_, rfl⟩
              rw [← ho2] at hA3
              have hbU := Aside0.mk (T1.out.below _ _ hhl.out O3.out.below)
              cases o2 with
              | none =>
                obtain rfl : ok2 = false := hA3.out
                have hFU := Aside0.mk (HF.out U hbU.out)
                obtain ⟨⟨z0, z1, z2, z3, z4, zf⟩, _⟩ := hFU.out
                clear r0 r1 r2 r3 r4 rf ho2 hA3
                go_wp2_with fail
                (try simp only [Exit.inBlock, Exit.then])
                refine plc5_close rfl hFU.out.2.1 (Nat.le_refl _) hFU.out.2.2 (fun W' hb' => ?_) _ rfl rfl rfl
                exact FndA.no hb'
              | some q =>
                obtain ⟨rfl, hP⟩ := hA3.out
                have hlt3 : hh < w3.heap.size := (Array.getElem?_eq_some_iff.1 O3.out.blk).1
                obtain ⟨kd3, b3, e3, ns3, ks3, rfl, hO3⟩ := OB.put hhl.out hlt3 O3.out.below (fun g _ => rfl) T1.out hP (O.out.ok.step ho2.symm)
                have HO3 := Aside0.mk hO3
                have HS3 : Aside0 (seekP (bytesOf S) (.mk kd0 b0 e0 ns0 ks0) K = seekP (bytesOf S) (.mk kd3 b3 e3 ns3 ks3) (K.drop (i + 1))) := ⟨by rw [HSK.out, HDK.out, seekP, ← ho2]⟩
                clear r0 r1 r2 r3 r4 rf ho2 hA3 hP hO3
                go_wp2_with fail
                go_roundw
                case rel => exact ⟨i + 1, kd3, b3, e3, ns3, ks3, na2, nc2, ka2, kc2, by go_num, by omega, HO3, HS3⟩
                case measure => simp [intOf]; omega
          · have h6t : ((kd : Int) == 6) = false := by simp; omega
            clear h6
            go_upto_region 10 with (first
              | (go_at_call 25; refine (CS.out _ O.out).mono ?_; rintro en w3 ⟨k2, b2, e2, na2, nn2, nc2, ka2, kn2, kc2, ok2, rfl, hb3, hA3⟩; have O3 := Aside0.mk (O.out.next hb3); obtain ⟨r0, r1, r2, r3, r4, rf⟩ := O3.out.cells)
              | (go_at_call 12; refine (CI.out _).mono ?_; rintro en w' ⟨rfl, rfl⟩))
            have T1 := st5 (.int .i64 k2) (.int .i64 b2) (.int .i64 e2) (.slice na2 nn2 nc2) (.slice ka2 kn2 kc2) O3.out.blk
            generalize (((((w3.setCell ⟨hh, 0, none⟩ (.int .i64 k2)).setCell ⟨hh, 1, none⟩ (.int .i64 b2)).setCell ⟨hh, 2, none⟩ (.int .i64 e2)).setCell ⟨hh, 3, none⟩ (.slice na2 nn2 nc2)).setCell ⟨hh, 4, none⟩ (.slice ka2 kn2 kc2)) = U at T1 ⊢
            replace T1 := Aside0.mk T1
            obtain ⟨o2, ho2⟩ : ∃ o, o = stepP (bytesOf S) (.mk kd b e ns ks) key := ⟨_, rfl⟩
            rw [← ho2] at hA3
            have hbU := Aside0.mk (T1.out.below _ _ hhl.out O3.out.below)
            cases o2 with
            | none =>
              obtain rfl : ok2 = false := hA3.out
              have hFU := Aside0.mk (HF.out U hbU.out)
              obtain ⟨⟨z0, z1, z2, z3, z4, zf⟩, _⟩ := hFU.out
              clear r0 r1 r2 r3 r4 rf ho2 hA3
              go_wp2_with fail
              (try simp only [Exit.inBlock, Exit.then])
              refine plc5_close rfl hFU.out.2.1 (Nat.le_refl _) hFU.out.2.2 (fun W' hb' => ?_) _ rfl rfl rfl
              exact FndA.no hb'
            | some q =>
              obtain ⟨rfl, hP⟩ := hA3.out
              have hlt3 : hh < w3.heap.size := (Array.getElem?_eq_some_iff.1 O3.out.blk).1
              obtain ⟨kd3, b3, e3, ns3, ks3, rfl, hO3⟩ := OB.put hhl.out hlt3 O3.out.below (fun g _ => rfl) T1.out hP (O.out.ok.step ho2.symm)
              have HO3 := Aside0.mk hO3
              have HS3 : Aside0 (seekP (bytesOf S) (.mk kd0 b0 e0 ns0 ks0) K = seekP (bytesOf S) (.mk kd3 b3 e3 ns3 ks3) (K.drop (i + 1))) := ⟨by rw [HSK.out, HDK.out, seekP, ← ho2]⟩
              clear r0 r1 r2 r3 r4 rf ho2 hA3 hP hO3
              go_wp2_with fail
              go_roundw
              case rel => exact ⟨i + 1, kd3, b3, e3, ns3, ks3, na2, nc2, ka2, kc2, by go_num, by omega, HO3, HS3⟩
              case measure => simp [intOf]; omega
        · obtain rfl : i = n := by omega
          have hFR := Aside0.mk (HF.out wr O.out.below)
          obtain ⟨⟨z0, z1, z2, z3, z4, zf⟩, _⟩ := hFR.out
          have HE : Aside0 (seekP (bytesOf S) (.mk kd0 b0 e0 ns0 ks0) K = some (.mk kd b e ns ks)) := ⟨by rw [HSK.out, List.drop_eq_nil_of_le (by rw [HL.out]; exact Nat.le_refl _), seekP]⟩
          go_wp2_with fail
          (try simp only [Exit.inBlock, Exit.then])
          refine plc5_close rfl hFR.out.2.1 (Nat.le_refl _) hFR.out.2.2 (fun W' hb' => ?_) _ rfl rfl rfl
          exact ⟨_, _, _, _, _, _, _, _, _, true, rfl, hb', ⟨fun _ => ⟨_, _, HO.out.symm, HE.out, rfl, rfl, rfl⟩⟩⟩
end Go.Proofs.YtpahejmkidhhhaaDoor.G
end

section
namespace Go.Proofs.YtpahejmkidhhhaaDoor.G
set_option linter.unusedVariables false
set_option linter.unusedSimpArgs false
open Go.RowKit Go.Proofs.YtpahejmkidhhhaaDoorW.PrintWords

theorem bad_ig {ys : List Int} {s : Int} (h : BadS ys s) : (ig ys s).er ≠ 0 := by
  rcases h with rfl | ⟨r, rfl, hr, h⟩
  · show 1 ≠ 0; decide
  · show (igAt ys r).er ≠ 0
    have hb := bl_le (ys.drop r)
    unfold igAt
    rw [List.length_drop] at hb ⊢
    rcases h with h | ⟨h1, h2⟩
    · rw [if_pos (by omega)]; simp
    · rw [if_neg (by omega), if_neg h2]; exact h2
theorem good_ig {T : List Int} {a k c r : Nat} {q : Pl} (hi : InT T a k q) (hc : q.e ≤ c) (hcT : c ≤ T.length) (hr : r + bl ((T.take c).drop r) = q.b) :
    ig (T.take c) (r : Int) = if q.kd = 4 then ⟨1, q.b + 1, q.e - 1, (q.b : Nat), (q.e : Nat), 0⟩ else ⟨jk q.kd, q.b, q.e, (q.b : Nat), (q.e : Nat), 0⟩ := by
  have hlt := hi.lt
  have hlen : (T.take c).length = c := by rw [List.length_take]; omega
  obtain ⟨kd, ns, ks, hp, hg, _, _⟩ := gt_val hi.v (by rw [show q.b + (q.e - q.b) = q.e by omega]; exact hi.dl)
  have hkd : q.kd = kd := by rw [hp]; rfl
  have hg2 := gt_moved (List.drop_take .. : (T.take c).drop q.b = (T.drop q.b).take (c - q.b)) (by omega) (by omega) hg
  rw [show q.b + (q.e - q.b) = q.e by omega] at hg2
  show igAt (T.take c) r = _
  unfold igAt
  have hb := bl_le ((T.take c).drop r)
  rw [List.length_drop, hlen] at hb
  rw [List.length_drop, hlen, if_neg (by omega), hr, hg2]
  simp only [if_true]
  rw [hkd]
  by_cases h : kd = 4
  · subst h; rw [if_pos (by rfl), if_pos rfl]
  · rw [if_neg (fun h' => h (jk_one.1 h')), if_neg h]
theorem kd6 {T : List Int} {a k : Nat} {q : Pl} (hi : InT T a k q) : q.kd ≤ 6 ∧ (q.kd = 4 → q.b + 2 ≤ q.e) := by
  have hlt := hi.lt
  obtain ⟨kd, ns, ks, hp, hg, h4, _⟩ := gt_val hi.v (by rw [show q.b + (q.e - q.b) = q.e by omega]; exact hi.dl)
  have hkd : q.kd = kd := by rw [hp]; rfl
  refine ⟨?_, fun h => by have := (h4 (by rw [← hkd]; exact h)).2; omega⟩
  obtain ⟨c, l', hl, hc⟩ := V_cases hi.v
  rcases hc with ⟨_, r, _, hp2, _⟩ | ⟨_, r, _, hp2, _⟩ | ⟨_, q', _, hp2, _⟩ | ⟨_, _, _, ⟨kd', hk', hp2⟩, _⟩
  · rw [hp2]; show 6 ≤ 6; omega
  · rw [hp2]; show 5 ≤ 6; omega
  · rw [hp2]; show 4 ≤ 6; omega
  · rw [hp2]; show kd' ≤ 6; omega
theorem cut_bytes (S : ByteArray) (c : Nat) : bytesOf (S.extract 0 c) = (bytesOf S).take c := by
  rw [ext_list]; rfl
/-- JpGet with any keys. -/
theorem get_any (E : Nat → Value) (s : ByteArray) (K : List ByteArray) (ka : Option Addr) (kn kc : Nat) (w : World) (hG : GL E w) (hW : SW w E) (hs : s.size ≤ 140737488351232) (hkl : K.length = kn) (hkm : kn ≤ 2147483647) (hkc : kn ≤ kc) (hks : ∀ x ∈ K, x.size ≤ 2147483647) (hka : KeysAt w ka K) :
    Calls Tryd.prog 11 #[.string s, .slice ka kn kc] w (JGA (bytesOf s) (ig (bytesOf s) (sks K (bytesOf s))) w) := by
  have hok := ig_ok (xs := bytesOf s) (sks_bound _ K (bytesOf s) (Nat.le_refl _))
  rw [bytesOf_length] at hok
  exact jpGet_calls E _ s (.slice ka kn kc) w hG hs ⟨hok.1, hok.2.1⟩ hok.2.2 (fun W h c hb _ hr hc => iget_calls E K ka kn kc h 0 s.size c (bytesOf s) W hkl (by omega) (fun x hx => by have := hks x hx; omega) hkc (hka.below hb) (hW.below hb) hr (bytes_ok s) (bytesOf_length s) (by omega) hc)
theorem jg_raw {S : ByteArray} {c : Nat} {kd b e : Nat} (h4 : kd = 4 → b + 2 ≤ e) (hc : e ≤ c) : jgV ((bytesOf S).take c) (if kd = 4 then ⟨1, b + 1, e - 1, (b : Nat), (e : Nat), 0⟩ else ⟨jk kd, b, e, (b : Nat), (e : Nat), 0⟩) = rawS S kd b e := by
  have ext : ∀ a b : Nat, b ≤ c → strOfNums ((((bytesOf S).take c).drop a).take (b - a)) = S.extract a b := fun a b hb => by
    have e1 : (((bytesOf S).take c).drop a).take (b - a) = ((bytesOf S).drop a).take (b - a) := by
      rw [List.drop_take, List.take_take, Nat.min_eq_left (by omega)]
    rw [e1]
    apply bytesOf_inj
    rw [bytesOf_str (fun x hx => bytes_ok S x (List.mem_of_mem_drop (List.mem_of_mem_take hx))), ext_list]; rfl
  by_cases h : kd = 4
  · rw [if_pos h]
    unfold jgV rawS
    rw [if_pos rfl, if_pos h]
    exact ext _ _ (by have := h4 h; show e - 1 ≤ c; omega)
  · rw [if_neg h]
    unfold jgV rawS
    rw [if_pos rfl, if_neg h]
    exact ext _ _ hc
def JgT (S : ByteArray) (kd b e : Nat) (w : World) (en : Ending) (w' : World) : Prop := en = .returned (.tuple #[.agg #[.string ⟨#[]⟩, .string (rawS S kd b e), .int .i64 (jk kd), .int .i64 (e : Int)], .bool true]) ∧ Below w.heap.size w w'
def JgF (w : World) (en : Ending) (w' : World) : Prop := en = .returned (.tuple #[.agg #[.string ⟨#[]⟩, .string ⟨#[]⟩, .int .i64 0, .int .i64 0], .bool false]) ∧ Below w.heap.size w w'
theorem jga_true {S : ByteArray} {c : Nat} {kd b e : Nat} {ys : List Int} {g : Ig} {w : World} {en : Ending} {w' : World} (hg : g = if kd = 4 then ⟨1, b + 1, e - 1, (b : Nat), (e : Nat), 0⟩ else ⟨jk kd, b, e, (b : Nat), (e : Nat), 0⟩) (hy : ys = (bytesOf S).take c) (h4 : kd = 4 → b + 2 ≤ e) (hc : e ≤ c) (h : JGA ys g w en w') : JgT S kd b e w en w' := by
  subst hy
  unfold JGA at h
  rw [hg, jg_raw h4 hc] at h
  have hk : (if kd = 4 then (⟨1, b + 1, e - 1, ((b : Nat) : Int), ((e : Nat) : Int), 0⟩ : Ig) else ⟨jk kd, b, e, ((b : Nat) : Int), ((e : Nat) : Int), 0⟩).er = 0 ∧ (if kd = 4 then (⟨1, b + 1, e - 1, ((b : Nat) : Int), ((e : Nat) : Int), 0⟩ : Ig) else ⟨jk kd, b, e, ((b : Nat) : Int), ((e : Nat) : Int), 0⟩).kind = jk kd ∧ (if kd = 4 then (⟨1, b + 1, e - 1, ((b : Nat) : Int), ((e : Nat) : Int), 0⟩ : Ig) else ⟨jk kd, b, e, ((b : Nat) : Int), ((e : Nat) : Int), 0⟩).en = (e : Int) := by
    by_cases h : kd = 4
    · subst h; rw [if_pos rfl]; exact ⟨rfl, rfl, rfl⟩
    · rw [if_neg h]; exact ⟨rfl, rfl, rfl⟩
  rw [hk.1, hk.2.1, hk.2.2, if_pos rfl, if_pos rfl, decide_eq_true rfl] at h
  exact h
theorem jga_false {ys : List Int} {g : Ig} {w : World} {en : Ending} {w' : World} (hg : g.er ≠ 0) (h : JGA ys g w en w') : JgF w en w' := by
  unfold JGA jgV at h
  rw [if_neg hg, if_neg hg, if_neg hg, decide_eq_false hg] at h
  exact h
set_option maxHeartbeats 16000000 in
set_option maxRecDepth 100000 in
theorem cut_walk (E : Nat → Value) (S : ByteArray) (K : List ByteArray) (ka : Option Addr) (kn kc : Nat) (cut : Int) (w : World) (hG : GL E w) (hW : SW w E) (hP : ErP w E) (hs : S.size ≤ 140737488351232) (hkl : K.length = kn) (hkm : kn ≤ 9223372036854775807) (hkc : kn ≤ kc) (hka : KeysAt w ka K) :
    Calls Tryd.prog 3 #[.string S, .slice ka kn kc, .int .i64 cut] w fun e w' => e = .returned (.bool true) ∧ Below w.heap.size w w' := by
  have CF := Aside0.mk (fits1_calls K ka kn kc w (by omega) hkl hka)
  rcases Decidable.em (2147483647 < S.size) with hg | hg
  · clear hkl hka hG hW hP
    go_enter Tryd.func3, Tryd.ntmps3
    go_wp2
    go_ret
    exact ⟨rfl, Below.refl _ _⟩
  · have HG := Aside0.mk hG
    have HW := Aside0.mk hW
    have HKL := Aside0.mk hkl
    have HKA := Aside0.mk hka
    have CJ := Aside0.mk (fun (hks : K.length ≤ 2147483647 ∧ ∀ x ∈ K, x.size ≤ 2147483647) => jpFound_calls S K ka kn kc w (by omega) hkl (by omega) hks.2 hka)
    have CG := Aside0.mk (fun (hks : K.length ≤ 2147483647 ∧ ∀ x ∈ K, x.size ≤ 2147483647) (s : ByteArray) (hs2 : s.size ≤ 140737488351232) W (hb : Below w.heap.size w W) => get_any E s K ka kn kc W (hG.below hb) (hW.below hb) hs2 hkl (by omega) hkc hks.2 (hka.below hb))
    clear hkl hka hG hW hP
    have HLT : Aside0 ((bytesOf S).length = S.size) := ⟨bytesOf_length S⟩
    go_enter Tryd.func3, Tryd.ntmps3
    go_wp2_with (first
      | (go_at_call 10; refine (CJ.out (hb.out (by trivial))).mono ?_; rintro en w1 ⟨k', b', e', na', nn', nc', ka', kn', kc', ok, rfl, hb1, hA⟩; cases ok; rotate_left; obtain ⟨p, q, hp, hq, rfl, rfl, rfl⟩ := hA.out (by trivial); have HPQ := Aside0.mk (And.intro hp hq); clear hp hq hA; rotate_right)
      | (go_at_call 9; refine CF.out.mono ?_; rintro e w1 ⟨b, rfl, rfl, hb⟩; cases b))
    all_goals try (go_ret; first | exact ⟨rfl, Below.refl _ _⟩ | exact ⟨rfl, hb1.alloc hb1.size _⟩)
    · have hbf := Aside0.mk (hb.out (by trivial))
      obtain ⟨hin, _, hbad⟩ := find_top (c := cut.toNat) (by rw [HLT.out]; omega) (jpo_J HPQ.out.1) HPQ.out.2 (by rw [HLT.out]; omega)
      obtain ⟨_, hgood, _⟩ := find_top (c := (bytesOf S).length) (by rw [HLT.out]; omega) (jpo_J HPQ.out.1) HPQ.out.2 (Nat.le_refl _)
      have hqe : q.e ≤ S.size := by have h1 := hin.hi; have h2 := hin.lo; have h3 := hin.lt; rw [HLT.out] at h1; omega
      obtain ⟨r, hr1, hr2, hr3⟩ := hgood (by rw [HLT.out]; exact hqe) (.inl rfl)
      have hig := good_ig hin (c := (bytesOf S).length) (by rw [HLT.out]; exact hqe) (Nat.le_refl _) hr2
      rw [List.take_length] at hr1 hig
      rw [← hr1] at hig
      have e1 : (ig (bytesOf (S.extract 0 cut.toNat)) (sks K (bytesOf (S.extract 0 cut.toNat)))).er ≠ 0 := by
        rw [cut_bytes]
        exact bad_ig (hbad (by omega) (by omega))
      have hk := kd6 hin
      have H1 := Aside0.mk e1
      have H2 := Aside0.mk hig
      have H3 := Aside0.mk hk.2
      have H4 := Aside0.mk hqe
      have hsz : (S.extract 0 cut.toNat).size ≤ 140737488351232 := by rw [ByteArray.size_extract]; omega
      clear hin hbad hgood hr1 hr2 hr3 hig e1 hk hqe
      refine (CG.out hbf.out _ hsz _ (hb1.alloc hb1.size _)).mono ?_
      intro en w2 h
      obtain ⟨rfl, hb2⟩ := jga_false H1.out h
      clear h
      go_wp2_with (go_at_call 11; refine (CG.out hbf.out S hs _ ((below_step (hb1.alloc hb1.size _) hb2).alloc (below_step (hb1.alloc hb1.size _) hb2).size _)).mono ?_; intro en w3 h; replace h := jga_true (c := S.size) H2.out (by rw [← HLT.out, List.take_length]) H3.out H4.out h; obtain ⟨rfl, hb3⟩ := h)
      go_ret
      exact ⟨rfl, (below_step ((below_step (hb1.alloc hb1.size _) hb2).alloc (below_step (hb1.alloc hb1.size _) hb2).size _) hb3).alloc (below_step ((below_step (hb1.alloc hb1.size _) hb2).alloc (below_step (hb1.alloc hb1.size _) hb2).size _) hb3).size _⟩
    · have hbf := Aside0.mk (hb.out (by trivial))
      have hz := heap_alloc_new w1 (.cells #[.int .i64 (q.kd : Int), .int .i64 (q.b : Int), .int .i64 (q.e : Int), .slice na' nn' nc', .slice ka' kn' kc'] 27)
      have hbV := hb1.alloc hb1.size (.cells #[.int .i64 (q.kd : Int), .int .i64 (q.b : Int), .int .i64 (q.e : Int), .slice na' nn' nc', .slice ka' kn' kc'] 27)
      generalize (w1.alloc (.cells #[.int .i64 (q.kd : Int), .int .i64 (q.b : Int), .int .i64 (q.e : Int), .slice na' nn' nc', .slice ka' kn' kc'] 27)) = V at hz hbV ⊢
      have HZ := Aside0.mk hz
      have HBV := Aside0.mk hbV
      have hce : (q.e : Int) ≤ cut := by omega
      have hcs : cut ≤ (S.size : Int) := by omega
      clear hz hbV
      generalize w1.heap.size = hh at HZ ⊢
      go_loop [73] (fun v => ∃ i : Nat, v = .int .i64 (i : Int) ∧ i ≤ kn ∧ Aside0 (∀ j, j < i → isIx (K.getD j ByteArray.empty) = false)) (fun v => kn - (intOf v).toNat)
      case atStart => exact ⟨0, rfl, Nat.zero_le _, ⟨fun j hj => by omega⟩⟩
      case round =>
        obtain ⟨i, rfl, hi, HN⟩ := hrel
        by_cases hlt : i < kn
        · obtain ⟨a, rfl, hab, hca⟩ := (HKA.out.below HBV.out) i (by rw [HKL.out]; exact hlt)
          obtain ⟨key, hkey⟩ : ∃ key, key = K.getD i ByteArray.empty := ⟨_, rfl⟩
          have hks : key.size ≤ 2147483647 := by
            rw [hkey]
            refine hbf.out.2 _ ?_
            rw [List.getD_eq_getElem?_getD, List.getElem?_eq_getElem (by rw [HKL.out]; exact hlt)]
            exact List.getElem_mem _
          rw [← hkey] at hca
          have CI := Aside0.mk (fun W => jpIndex_calls key W (by omega))
          unfold IxA at CI
          have HKY := Aside0.mk hkey
          clear hkey
          cases hix : isIx key with
          | true =>
            rw [hix] at CI
            clear hix
            go_wp2_with (go_at_call 12; refine (CI.out _).mono ?_; rintro en w' ⟨rfl, rfl⟩)
            go_ret
            exact ⟨rfl, HBV.out⟩
          | false =>
            rw [hix] at CI
            have HX := Aside0.mk hix
            clear hix
            go_wp2_with (go_at_call 12; refine (CI.out _).mono ?_; rintro en w' ⟨rfl, rfl⟩)
            go_round
            case rel => exact ⟨i + 1, by go_num, by omega, ⟨fun j hj => by
              by_cases e : j = i
              · rw [e, ← HKY.out]; exact HX.out
              · exact HN.out j (by omega)⟩⟩
            case measure => simp [intOf]; omega
        · obtain rfl : i = kn := by omega
          have hno : NoIx K := fun key hk => by
            obtain ⟨j, hj, rfl⟩ := List.getElem_of_mem hk
            have := HN.out j (by rw [← HKL.out]; exact hj)
            rwa [List.getD_eq_getElem?_getD, List.getElem?_eq_getElem hj] at this
          obtain ⟨hin, hgood, _⟩ := find_top (c := cut.toNat) (by rw [HLT.out]; omega) (jpo_J HPQ.out.1) HPQ.out.2 (by rw [HLT.out]; omega)
          have hqe : q.e ≤ S.size := by omega
          obtain ⟨r, hr1, hr2, hr3⟩ := hgood (by omega) (.inr hno)
          have hig := good_ig hin (c := cut.toNat) (by omega) (by rw [HLT.out]; omega) hr2
          rw [← hr1] at hig
          have hk := kd6 hin
          have hbe : q.b ≤ q.e := Nat.le_of_lt hin.lt
          have H2 := Aside0.mk hig
          have H3 := Aside0.mk hk.2
          have HE4 : Aside0 (q.e ≤ cut.toNat) := ⟨by omega⟩
          have hsz : (S.extract 0 cut.toNat).size ≤ 140737488351232 := by rw [ByteArray.size_extract]; omega
          have CY := Aside0.mk (fun W hb => (CG.out hbf.out (S.extract 0 cut.toNat) hsz W hb).mono (fun en w' h => jga_true (S := S) (c := cut.toNat) (by rw [cut_bytes]; exact H2.out) (cut_bytes S _) H3.out HE4.out h))
          have CT := Aside0.mk (fun W => told_calls S q.kd q.b q.e (.slice na' nn' nc') (.slice ka' kn' kc') ⟨#[]⟩ W hs hk.1 hbe hqe hk.2 ⟨_, _, _, rfl⟩ ⟨_, _, _, rfl⟩)
          clear hno hin hgood hr1 hr2 hr3 hig hk
          unfold JgT at CY
          go_upto_region 17 with (go_at_call 11; refine (CY.out _ HBV.out).mono ?_; rintro en w2 ⟨rfl, hb2⟩)
          have h7 := (hb2.block hh (Array.getElem?_eq_some_iff.1 HZ.out).1).trans HZ.out
          have hlt2 : hh < w2.heap.size := Nat.lt_of_lt_of_le (Array.getElem?_eq_some_iff.1 HZ.out).1 hb2.size
          have h15 := heap_alloc_new w2 (.cells #[.string ⟨#[]⟩, .string (rawS S q.kd q.b q.e), .int .i64 (jk q.kd), .int .i64 (q.e : Int)] 31)
          have h7u := (Below.heap_alloc w2 (.cells #[.string ⟨#[]⟩, .string (rawS S q.kd q.b q.e), .int .i64 (jk q.kd), .int .i64 (q.e : Int)] 31) hh hlt2).trans h7
          have hbU := (below_step HBV.out hb2).alloc (below_step HBV.out hb2).size (.cells #[.string ⟨#[]⟩, .string (rawS S q.kd q.b q.e), .int .i64 (jk q.kd), .int .i64 (q.e : Int)] 31)
          generalize (w2.alloc (.cells #[.string ⟨#[]⟩, .string (rawS S q.kd q.b q.e), .int .i64 (jk q.kd), .int .i64 (q.e : Int)] 31)) = U at h15 h7u hbU ⊢
          have x0 := blk_cell (j := 0) h15 rfl
          have x1 := blk_cell (j := 1) h15 rfl
          have x2 := blk_cell (j := 2) h15 rfl
          have x3 := blk_cell (j := 3) h15 rfl
          have y0 := blk_cell (j := 0) h7u rfl
          have y1 := blk_cell (j := 1) h7u rfl
          have y2 := blk_cell (j := 2) h7u rfl
          have y3 := blk_cell (j := 3) h7u rfl
          have y4 := blk_cell (j := 4) h7u rfl
          have HBU := Aside0.mk hbU
          clear h7 h15 h7u hbU
          go_wp2_with (go_at_call 13; refine (CT.out _).mono ?_; rintro en w3 ⟨rfl, hb3⟩)
          go_ret
          exact ⟨rfl, below_step HBU.out hb3⟩
end Go.Proofs.YtpahejmkidhhhaaDoor.G
end
