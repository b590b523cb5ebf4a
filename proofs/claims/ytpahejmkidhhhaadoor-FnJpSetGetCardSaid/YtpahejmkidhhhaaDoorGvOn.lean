/- The reference's Once. -/
import Derived.Test.YtpahejmkidhhhaaDoorGvRs
import Derived.Test.YtpahejmkidhhhaaDoorGvTw
namespace Go.Proofs.YtpahejmkidhhhaaDoor.G
set_option linter.unusedVariables false
set_option linter.unusedSimpArgs false
open Go.RowKit Go.Proofs.YtpahejmkidhhhaaDoorW.PrintWords

/-- Five cells written over. -/
structure St5 (W V : World) (hh : Nat) (q0 q1 q2 q3 q4 : Value) : Prop where
  at' : V.heap[hh]? = some (.cells #[q0, q1, q2, q3, q4] 27)
  other : ∀ g, g ≠ hh → V.heap[g]? = W.heap[g]?
  size : V.heap.size = W.heap.size
  below : ∀ (B : Nat) (w0 : World), B ≤ hh → Below B w0 W → Below B w0 V
theorem st5 {W : World} {hh : Nat} {p0 p1 p2 p3 p4 : Value} (q0 q1 q2 q3 q4 : Value) (hB : W.heap[hh]? = some (.cells #[p0, p1, p2, p3, p4] 27)) :
    St5 W (((((W.setCell ⟨hh, 0, none⟩ q0).setCell ⟨hh, 1, none⟩ q1).setCell ⟨hh, 2, none⟩ q2).setCell ⟨hh, 3, none⟩ q3).setCell ⟨hh, 4, none⟩ q4) hh q0 q1 q2 q3 q4 := by
  have e0 := res_put (j := 0) (v := q0) hB rfl
  have e1 := res_put (j := 1) (v := q1) e0 rfl
  have e2 := res_put (j := 2) (v := q2) e1 rfl
  have e3 := res_put (j := 3) (v := q3) e2 rfl
  have e4 := res_put (j := 4) (v := q4) e3 rfl
  refine ⟨e4, fun g hg => ?_, ?_, fun B w0 hle hb => ?_⟩
  · have st : ∀ (X : World) (j : Nat) (v : Value), (X.setCell ⟨hh, j, none⟩ v).heap[g]? = X.heap[g]? := fun X j v => Below.heap_setCell _ _ _ _ (by intro e; exact hg e)
    rw [st, st, st, st, st]
  · simp [World.setCell]
  · exact ((((hb.setCell hle _).setCell hle _).setCell hle _).setCell hle _).setCell hle _
/-- What the box of a place holds. -/
structure OB (S : ByteArray) (w wr : World) (kd b e : Nat) (ns : List (Nat × Nat)) (ks : List Pl) (nA : Option Addr) (nc : Nat) (kA : Option Addr) (kc : Nat) (hh : Nat) : Prop where
  blk : wr.heap[hh]? = some (.cells #[.int .i64 (kd : Int), .int .i64 (b : Int), .int .i64 (e : Int), .slice nA ns.length nc, .slice kA ks.length kc] 27)
  pl : PlAt wr (fun g => g ≠ hh) (.mk kd b e ns ks) [.int .i64 (kd : Int), .int .i64 (b : Int), .int .i64 (e : Int), .slice nA ns.length nc, .slice kA ks.length kc]
  ok : PlOk S (.mk kd b e ns ks)
  below : Below w.heap.size w wr
theorem OB.next {S : ByteArray} {w wr w' : World} {kd b e : Nat} {ns : List (Nat × Nat)} {ks : List Pl} {nA kA : Option Addr} {nc kc hh : Nat} (h : OB S w wr kd b e ns ks nA nc kA kc hh) (hb : Below wr.heap.size wr w') : OB S w w' kd b e ns ks nA nc kA kc hh := by
  have hlt : hh < wr.heap.size := (Array.getElem?_eq_some_iff.1 h.blk).1
  exact ⟨(hb.block _ hlt).trans h.blk, plat_below h.pl hb, h.ok, below_step h.below hb⟩
theorem plat_form {F : Nat → Prop} {w : World} {q : Pl} {k b e : Int} {na : Option Addr} {nn nc : Nat} {ka : Option Addr} {kn kc : Nat} (h : PlAt w F q [.int .i64 k, .int .i64 b, .int .i64 e, .slice na nn nc, .slice ka kn kc]) :
    ∃ (kd' b' e' : Nat) (ns : List (Nat × Nat)) (ks : List Pl), q = .mk kd' b' e' ns ks ∧ k = kd' ∧ b = b' ∧ e = e' ∧ nn = ns.length ∧ kn = ks.length := by
  obtain ⟨kd', b', e', ns, ks⟩ := q
  obtain ⟨nv, kv, xs, hcs, hn, hk, _⟩ := plat_cells h
  simp only [List.cons.injEq, Value.int.injEq, true_and, and_true] at hcs
  obtain ⟨rfl, rfl, rfl, rfl, rfl⟩ := hcs
  obtain ⟨A, c, he⟩ := own_slice hn.1
  obtain ⟨A', c', he'⟩ := own_slice hk.1
  injection he with _ h1 _
  injection he' with _ h2 _
  exact ⟨kd', b', e', ns, ks, rfl, rfl, rfl, rfl, h1, h2⟩
/-- The box written anew with what Step gave. -/
theorem OB.put {S : ByteArray} {w w1 V U : World} {hh : Nat} {q : Pl} {k b e : Int} {na : Option Addr} {nn nc : Nat} {ka : Option Addr} {kn kc : Nat} (hle : w.heap.size ≤ hh) (hlt : hh < w1.heap.size) (hb : Below w.heap.size w V) (hV : ∀ g, g < w1.heap.size → V.heap[g]? = w1.heap[g]?)
    (hU : St5 V U hh (.int .i64 k) (.int .i64 b) (.int .i64 e) (.slice na nn nc) (.slice ka kn kc)) (hP : PlAt w1 (fun g => g ≠ hh) q [.int .i64 k, .int .i64 b, .int .i64 e, .slice na nn nc, .slice ka kn kc]) (hok : PlOk S q) :
    ∃ (kd' b' e' : Nat) (ns : List (Nat × Nat)) (ks : List Pl), q = .mk kd' b' e' ns ks ∧ OB S w U kd' b' e' ns ks na nc ka kc hh := by
  obtain ⟨kd', b', e', ns, ks, rfl, rfl, rfl, rfl, rfl, rfl⟩ := plat_form hP
  exact ⟨kd', b', e', ns, ks, rfl, hU.at', PlAt.kept (fun g hg hF => (hU.other g hF).trans (hV g hg)) hP, hok, hU.below _ _ hle hb⟩
def OnceA (w : World) (e : Ending) (w' : World) : Prop := ∃ b : Bool, e = .returned (.bool b) ∧ Below w.heap.size w w'
theorem OB.cells {S : ByteArray} {w wr : World} {kd b e : Nat} {ns : List (Nat × Nat)} {ks : List Pl} {nA kA : Option Addr} {nc kc hh : Nat} (h : OB S w wr kd b e ns ks nA nc kA kc hh) : wr.cell? ⟨hh, 0, none⟩ = some (.int .i64 (kd : Int)) ∧ wr.cell? ⟨hh, 1, none⟩ = some (.int .i64 (b : Int)) ∧ wr.cell? ⟨hh, 2, none⟩ = some (.int .i64 (e : Int)) ∧ wr.cell? ⟨hh, 3, none⟩ = some (.slice nA ns.length nc) ∧ wr.cell? ⟨hh, 4, none⟩ = some (.slice kA ks.length kc) ∧ (∀ j, wr.frozen? ⟨hh, j, none⟩ = false) :=
  ⟨blk_cell h.blk rfl, blk_cell h.blk rfl, blk_cell h.blk rfl, blk_cell h.blk rfl, blk_cell h.blk rfl, fun j => blk_froz h.blk⟩
theorem OB.names {S : ByteArray} {w wr : World} {kd b e : Nat} {ns : List (Nat × Nat)} {ks : List Pl} {nA kA : Option Addr} {nc kc hh : Nat} (h : OB S w wr kd b e ns ks nA nc kA kc hh) : ∀ i (hi : i < ns.length), ∃ g, nA = some ⟨g, 0, none⟩ ∧ wr.cell? ⟨g, i * 2, none⟩ = some (.int .i64 (ns[i].1 : Int)) ∧ wr.cell? ⟨g, i * 2 + 1, none⟩ = some (.int .i64 (ns[i].2 : Int)) := by
  intro i hi
  obtain ⟨nv', kv', xs, hcs, hn, _, _⟩ := plat_cells h.pl
  simp only [List.cons.injEq, true_and, and_true] at hcs
  obtain ⟨rfl, rfl⟩ := hcs
  obtain ⟨A, c, he, hc⟩ := names_cells hn
  injection he with h1 _ h3
  subst h1 h3
  obtain ⟨g, h4, h5, h6⟩ := hc i hi
  exact ⟨g, h4, by rw [Nat.mul_comm]; exact h5, by rw [Nat.mul_comm]; exact h6⟩
theorem OB.start {S : ByteArray} {w : World} {kd b e : Nat} {ns : List (Nat × Nat)} {ks : List Pl} {nA kA : Option Addr} {nc kc : Nat} (hp : PlAt w (fun _ => True) (.mk kd b e ns ks) [.int .i64 (kd : Int), .int .i64 (b : Int), .int .i64 (e : Int), .slice nA ns.length nc, .slice kA ks.length kc]) (hok : PlOk S (.mk kd b e ns ks)) :
    OB S w (w.alloc (.cells #[.int .i64 (kd : Int), .int .i64 (b : Int), .int .i64 (e : Int), .slice nA ns.length nc, .slice kA ks.length kc] 27)) kd b e ns ks nA nc kA kc w.heap.size :=
  ⟨heap_alloc_new _ _, plat_below (PlAt.mono (fun g hg _ => by omega) hp) (below_alloc1 _), hok, below_alloc1 _⟩
set_option maxHeartbeats 16000000 in
set_option maxRecDepth 100000 in
theorem once_calls (S : ByteArray) (kd b e : Nat) (ns : List (Nat × Nat)) (ks : List Pl) (nA : Option Addr) (nc : Nat) (kA : Option Addr) (kc : Nat) (K : List ByteArray) (A : Option Addr) (n c : Nat) (w : World) (hS : S.size ≤ 2147483647) (hp : PlAt w (fun _ => True) (.mk kd b e ns ks) [.int .i64 (kd : Int), .int .i64 (b : Int), .int .i64 (e : Int), .slice nA ns.length nc, .slice kA ks.length kc]) (hok : PlOk S (.mk kd b e ns ks))
    (hl : K.length = n) (hn : n ≤ 2147483647) (hs : ∀ x ∈ K, x.size ≤ 2147483647) (hK : KeysAt w A K) :
    Calls Tryd.prog 24 #[.string S, .agg #[.int .i64 (kd : Int), .int .i64 (b : Int), .int .i64 (e : Int), .slice nA ns.length nc, .slice kA ks.length kc], .slice A n c] w (OnceA w) := by
  have O0 := Aside0.mk (OB.start hp hok)
  have HL := Aside0.mk hl
  have HS := Aside0.mk hs
  have HK := Aside0.mk hK
  clear hp hok hl hs hK
  go_enter Tryd.func24, Tryd.ntmps24
  go_wp2_with fail
  go_loopw [15] (fun v15 wr => ∃ (i kd b e : Nat) (ns : List (Nat × Nat)) (ks : List Pl) (nA : Option Addr) (nc : Nat) (kA : Option Addr) (kc : Nat), v15 = .int .i64 (i : Int) ∧ i ≤ n ∧ Aside0 (OB S w wr kd b e ns ks nA nc kA kc w.heap.size)) (fun v15 _ => n - (intOf v15).toNat)
  case atStart => exact ⟨0, _, _, _, _, _, _, _, _, _, rfl, Nat.zero_le _, O0⟩
  case round =>
    clear O0
    obtain ⟨i, kd, b, e, ns, ks, nA, nc, kA, kc, rfl, hi, O⟩ := hrel
    obtain ⟨r0, r1, r2, r3, r4, rf⟩ := O.out.cells
    by_cases hlt : i < n
    · obtain ⟨a, rfl, hab, hca⟩ := (HK.out.below O.out.below) i (by rw [HL.out]; exact hlt)
      obtain ⟨key, hkey⟩ : ∃ key, key = K.getD i ByteArray.empty := ⟨_, rfl⟩
      have hks : key.size ≤ 2147483647 := by
        rw [hkey]
        refine HS.out _ ?_
        rw [List.getD_eq_getElem?_getD, List.getElem?_eq_getElem (by rw [HL.out]; exact hlt)]
        exact List.getElem_mem _
      rw [← hkey] at hca
      clear hkey
      have CS := Aside0.mk (fun W (h : OB S w W kd b e ns ks nA nc kA kc w.heap.size) => step_calls (fun g => g ≠ w.heap.size) S key kd b e ns ks (.slice nA ns.length nc) (.slice kA ks.length kc) W hS (by omega) h.pl h.ok)
      have hfew := O.out.ok.few
      have hnl : ns.length ≤ 2147483647 := by omega
      clear hfew
      by_cases h6 : kd = 6
      · have h6t : ((kd : Int) == 6) = true := by simp; omega
        clear h6
        go_wp2_with fail
        go_loopw [9, 10] (fun v9 v10 wr2 => ∃ m j : Nat, v9 = .int .i64 (m : Int) ∧ v10 = .int .i64 (j : Int) ∧ j ≤ ns.length ∧ m ≤ j ∧ Aside0 (OB S w wr2 kd b e ns ks nA nc kA kc w.heap.size)) (fun _ v10 _ => ns.length - (intOf v10).toNat)
        case atStart => exact ⟨0, 0, rfl, rfl, Nat.zero_le _, Nat.le_refl _, O⟩
        case round =>
          clear O r0 r1 r2 r3 r4 rf
          obtain ⟨m, j, rfl, rfl, hj, hmj, O2⟩ := hrel
          obtain ⟨r0, r1, r2, r3, r4, rf⟩ := O2.out.cells
          by_cases hjl : j < ns.length
          · obtain ⟨g, rfl, q0, q1⟩ := O2.out.names j hjl
            obtain ⟨R, u, k1, k2, k3, k4, k5, k6⟩ := O2.out.ok.names ns[j] (List.getElem_mem hjl)
            have hes : (S.extract ns[j].1 ns[j].2).size ≤ 2147483647 := by rw [ByteArray.size_extract]; omega
            have CU := Aside0.mk (fun W => unq_calls (S.extract ns[j].1 ns[j].2) R u W hes k1 k2 k3)
            generalize hp1 : ns[j].1 = p1 at q0 CU k5
            generalize hp2 : ns[j].2 = p2 at q1 CU k5 k6
            by_cases hk : u = bytesOf key
            · have HU := Aside0.mk hk
              clear k1 k2 k3 k4 hk hp1 hp2 hes
              go_upto_region 9 with fail
              go_region_with (go_at_call 30; refine (CU.out _).mono ?_; rintro e' w1 ⟨s1, rfl, hs1, hb1⟩; obtain rfl : key = s1 := (bytesOf_inj (hs1.out.trans HU.out)).symm)
              all_goals go_wp2_with fail
              all_goals
                go_roundw
                case rel => exact ⟨m + 1, j + 1, by go_num, by go_num, by omega, by omega, ⟨(O2.out.next (below_drewN (Below.refl _ _) _)).next hb1⟩⟩
                case measure => simp [intOf]; omega
            · have HU := Aside0.mk hk
              clear k1 k2 k3 k4 hk hp1 hp2 hes
              go_upto_region 9 with fail
              go_region_with (go_at_call 30; refine (CU.out _).mono ?_; rintro e' w1 ⟨s1, rfl, hs1, hb1⟩; have hne : (s1.toList == key.toList) = false := (by simp only [beq_eq_false_iff_ne, ne_eq]; exact fun h => HU.out (hs1.out.symm.trans (congrArg bytesOf (ByteArray.ext (Array.toList_inj.1 (by rw [ByteArray.toList_eq, ByteArray.toList_eq] at h; exact h)))))))
              all_goals go_wp2_with fail
              all_goals
                go_roundw
                case rel => exact ⟨m, j + 1, rfl, by go_num, by omega, by omega, ⟨(O2.out.next (below_drewN (Below.refl _ _) _)).next hb1⟩⟩
                case measure => simp [intOf]; omega
          · obtain rfl : j = ns.length := by omega
            by_cases hm1 : 1 < m
            · go_wp2_with fail
              go_ret
              exact ⟨false, rfl, O2.out.below⟩
            · have hm2 : ¬ (1 : Int) < (m : Int) := by omega
              go_upto_region 14 with (go_at_call 25; refine (CS.out _ O2.out).mono ?_; rintro en w1 ⟨k', b', e', na', nn', nc', ka', kn', kc', ok, rfl, hb1, hA1⟩)
              obtain ⟨o, ho⟩ : ∃ o, o = stepP (bytesOf S) (.mk kd b e ns ks) key := ⟨_, rfl⟩
              rw [← ho] at hA1
              have O1 := Aside0.mk (O2.out.next hb1)
              have hz := heap_alloc_new w1 (.cells #[.int .i64 k', .int .i64 b', .int .i64 e', .slice na' nn' nc', .slice ka' kn' kc'] 27)
              have hbV := O1.out.below.alloc (by have := O1.out.below.size; omega) (.cells #[.int .i64 k', .int .i64 b', .int .i64 e', .slice na' nn' nc', .slice ka' kn' kc'] 27)
              have hVo : ∀ g, g < w1.heap.size → (w1.alloc (.cells #[.int .i64 k', .int .i64 b', .int .i64 e', .slice na' nn' nc', .slice ka' kn' kc'] 27)).heap[g]? = w1.heap[g]? := fun g hg => Below.heap_alloc _ _ _ hg
              generalize (w1.alloc (.cells #[.int .i64 k', .int .i64 b', .int .i64 e', .slice na' nn' nc', .slice ka' kn' kc'] 27)) = V at hz hbV hVo ⊢
              replace hbV := Aside0.mk hbV
              have hlt1 : w.heap.size < w1.heap.size := (Array.getElem?_eq_some_iff.1 O1.out.blk).1
              cases o with
              | none =>
                obtain rfl : ok = false := hA1.out
                go_wp2_with fail
                go_ret
                exact ⟨true, rfl, hbV.out⟩
              | some q =>
                obtain ⟨rfl, hP⟩ := hA1.out
                have HP := Aside0.mk hP
                have HO := Aside0.mk (O2.out.ok.step ho.symm)
                have hBx : V.heap[w.heap.size]? = some (.cells #[.int .i64 (kd : Int), .int .i64 (b : Int), .int .i64 (e : Int), .slice nA ns.length nc, .slice kA ks.length kc] 27) := (hVo _ hlt1).trans O1.out.blk
                have x0 := blk_cell (j := 0) hz rfl
                have x1 := blk_cell (j := 1) hz rfl
                have x2 := blk_cell (j := 2) hz rfl
                have x3 := blk_cell (j := 3) hz rfl
                have x4 := blk_cell (j := 4) hz rfl
                have y0 := blk_cell (j := 0) hBx rfl
                have y1 := blk_cell (j := 1) hBx rfl
                have y2 := blk_cell (j := 2) hBx rfl
                have y3 := blk_cell (j := 3) hBx rfl
                have y4 := blk_cell (j := 4) hBx rfl
                have yf : ∀ j, V.frozen? ⟨w.heap.size, j, none⟩ = false := fun j => blk_froz hBx
                have HB2 := Aside0.mk (And.intro hBx hVo)
                clear hBx hVo hP hA1 ho hz r0 r1 r2 r3 r4 rf
                go_wp2_with fail
                go_roundw
                case rel =>
                  obtain ⟨kd2, b2, e2, ns2, ks2, rfl, hO⟩ := OB.put (Nat.le_refl _) hlt1 hbV.out HB2.out.2 (st5 (.int .i64 k') (.int .i64 b') (.int .i64 e') (.slice na' nn' nc') (.slice ka' kn' kc') HB2.out.1) HP.out HO.out
                  exact ⟨i + 1, kd2, b2, e2, ns2, ks2, na', nc', ka', kc', by go_num, by omega, ⟨hO⟩⟩
                case measure => simp [intOf]; omega
      · have h6t : ((kd : Int) == 6) = false := by simp; omega
        clear h6
        go_upto_region 14 with (go_at_call 25; refine (CS.out _ O.out).mono ?_; rintro en w1 ⟨k', b', e', na', nn', nc', ka', kn', kc', ok, rfl, hb1, hA1⟩)
        obtain ⟨o, ho⟩ : ∃ o, o = stepP (bytesOf S) (.mk kd b e ns ks) key := ⟨_, rfl⟩
        rw [← ho] at hA1
        have O1 := Aside0.mk (O.out.next hb1)
        have hz := heap_alloc_new w1 (.cells #[.int .i64 k', .int .i64 b', .int .i64 e', .slice na' nn' nc', .slice ka' kn' kc'] 27)
        have hbV := O1.out.below.alloc (by have := O1.out.below.size; omega) (.cells #[.int .i64 k', .int .i64 b', .int .i64 e', .slice na' nn' nc', .slice ka' kn' kc'] 27)
        have hVo : ∀ g, g < w1.heap.size → (w1.alloc (.cells #[.int .i64 k', .int .i64 b', .int .i64 e', .slice na' nn' nc', .slice ka' kn' kc'] 27)).heap[g]? = w1.heap[g]? := fun g hg => Below.heap_alloc _ _ _ hg
        generalize (w1.alloc (.cells #[.int .i64 k', .int .i64 b', .int .i64 e', .slice na' nn' nc', .slice ka' kn' kc'] 27)) = V at hz hbV hVo ⊢
        replace hbV := Aside0.mk hbV
        have hlt1 : w.heap.size < w1.heap.size := (Array.getElem?_eq_some_iff.1 O1.out.blk).1
        cases o with
        | none =>
          obtain rfl : ok = false := hA1.out
          go_wp2_with fail
          go_ret
          exact ⟨true, rfl, hbV.out⟩
        | some q =>
          obtain ⟨rfl, hP⟩ := hA1.out
          have HP := Aside0.mk hP
          have HO := Aside0.mk (O.out.ok.step ho.symm)
          have hBx : V.heap[w.heap.size]? = some (.cells #[.int .i64 (kd : Int), .int .i64 (b : Int), .int .i64 (e : Int), .slice nA ns.length nc, .slice kA ks.length kc] 27) := (hVo _ hlt1).trans O1.out.blk
          have x0 := blk_cell (j := 0) hz rfl
          have x1 := blk_cell (j := 1) hz rfl
          have x2 := blk_cell (j := 2) hz rfl
          have x3 := blk_cell (j := 3) hz rfl
          have x4 := blk_cell (j := 4) hz rfl
          have y0 := blk_cell (j := 0) hBx rfl
          have y1 := blk_cell (j := 1) hBx rfl
          have y2 := blk_cell (j := 2) hBx rfl
          have y3 := blk_cell (j := 3) hBx rfl
          have y4 := blk_cell (j := 4) hBx rfl
          have yf : ∀ j, V.frozen? ⟨w.heap.size, j, none⟩ = false := fun j => blk_froz hBx
          have HB2 := Aside0.mk (And.intro hBx hVo)
          clear hBx hVo hP hA1 ho hz r0 r1 r2 r3 r4 rf
          go_wp2_with fail
          go_roundw
          case rel =>
            obtain ⟨kd2, b2, e2, ns2, ks2, rfl, hO⟩ := OB.put (Nat.le_refl _) hlt1 hbV.out HB2.out.2 (st5 (.int .i64 k') (.int .i64 b') (.int .i64 e') (.slice na' nn' nc') (.slice ka' kn' kc') HB2.out.1) HP.out HO.out
            exact ⟨i + 1, kd2, b2, e2, ns2, ks2, na', nc', ka', kc', by go_num, by omega, ⟨hO⟩⟩
          case measure => simp [intOf]; omega
    · obtain rfl : i = n := by omega
      go_wp2_with fail
      go_ret
      exact ⟨true, rfl, O.out.below⟩
end Go.Proofs.YtpahejmkidhhhaaDoor.G
