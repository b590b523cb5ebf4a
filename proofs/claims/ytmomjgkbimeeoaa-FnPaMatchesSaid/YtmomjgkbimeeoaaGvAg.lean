/- The reference's Alike of two nodes. -/
import Derived.Test.YtmomjgkbimeeoaaGvAl
import Derived.Test.YtmomjgkbimeeoaaGvPa
import Derived.Test.YtmomjgkbimeeoaaGvSt
import Derived.BigQuiet
namespace Go.Proofs.Ytmomjgkbimeeoaa.G
set_option linter.unusedVariables false
set_option linter.unusedSimpArgs false
open Go.RowKit Go.Proofs.YtmomjgkbimeeoaaW.PrintWords

/-- What is held against the one at j is alike. -/
def OkAt (o : Bool) (ks : List ByteArray) (kids : List Nd) (b : Nd) (j : Nat) : Prop := ∀ h : j < kids.length, ∃ m, pick o ks j b = some m ∧ alike kids[j] m = true
theorem alike_iff (k : Int) (t : ByteArray) (ks : List ByteArray) (kids : List Nd) (b : Nd) :
    alike (.mk k t ks kids) b = true ↔ (k = b.kind ∧ t = b.text ∧ kids.length = b.kids.length ∧ ks.length = b.keys.length) ∧ ∀ j, OkAt (decide (k = 6)) ks kids b j := by
  rw [alike_eq]
  simp only [Bool.and_eq_true, decide_eq_true_eq]
  rw [alikes_iff]
  simp only [Nat.zero_add]
  exact ⟨fun h => ⟨⟨h.1.1.1.1, h.1.1.1.2, h.1.1.2, h.1.2⟩, h.2⟩, fun h => ⟨⟨⟨⟨h.1.1, h.1.2.1⟩, h.1.2.2.1⟩, h.1.2.2.2⟩, h.2⟩⟩
theorem no_ok {o : Bool} {ks : List ByteArray} {kids : List Nd} {b : Nd} {i : Nat} (hi : i < kids.length) (h : pick o ks i b = none) : ¬ OkAt o ks kids b i := fun H => by
  obtain ⟨m, h1, _⟩ := H hi
  rw [h] at h1
  cases h1
theorem not_ok {o : Bool} {ks : List ByteArray} {kids : List Nd} {b m : Nd} {i : Nat} (hi : i < kids.length) (h : pick o ks i b = some m) (h2 : alike kids[i] m = false) : ¬ OkAt o ks kids b i := fun H => by
  obtain ⟨m', h1, h3⟩ := H hi
  rw [h] at h1
  cases h1
  rw [h2] at h3
  cases h3
theorem ok_upto {o : Bool} {ks : List ByteArray} {kids : List Nd} {b m : Nd} {i : Nat} (h : ∀ j, j < i → OkAt o ks kids b j) (hp : pick o ks i b = some m) (h2 : ∀ hi : i < kids.length, alike kids[i] m = true) : ∀ j, j < i + 1 → OkAt o ks kids b j := fun j hj => by
  by_cases e : j = i
  · subst e
    exact fun hi => ⟨m, hp, h2 hi⟩
  · exact h j (by omega)
theorem pick_none {k : Int} {ks ks2 : List ByteArray} {kids2 : List Nd} {t2 : ByteArray} {k2 : Int} {i : Nat} (h6 : k = 6) (h : memb ks2 (ks.getD i noStr) = none) : pick (decide (k = 6)) ks i (.mk k2 t2 ks2 kids2) = none := by
  unfold pick
  rw [if_pos (by simpa using h6)]
  show (memb ks2 (ks.getD i noStr)).bind _ = _
  rw [h]; rfl
theorem pick_name {k : Int} {ks ks2 : List ByteArray} {kids2 : List Nd} {t2 : ByteArray} {k2 : Int} {i j : Nat} (h6 : k = 6) (h : memb ks2 (ks.getD i noStr) = some j) (hj : j < kids2.length) : pick (decide (k = 6)) ks i (.mk k2 t2 ks2 kids2) = some kids2[j] := by
  unfold pick
  rw [if_pos (by simpa using h6)]
  show (memb ks2 (ks.getD i noStr)).bind (fun j => kids2[j]?) = _
  rw [h, Option.bind_some]
  exact List.getElem?_eq_getElem hj
theorem pick_at {k : Int} {ks ks2 : List ByteArray} {kids2 : List Nd} {t2 : ByteArray} {k2 : Int} {i : Nat} (h6 : ¬ k = 6) (hj : i < kids2.length) : pick (decide (k = 6)) ks i (.mk k2 t2 ks2 kids2) = some kids2[i] := by
  unfold pick
  rw [if_neg (by simpa using h6)]
  exact List.getElem?_eq_getElem hj
/-- A Bool is returned. -/
def BolA (b : Bool) (w : World) (e : Ending) (w' : World) : Prop := e = .returned (.bool b) ∧ Below w.heap.size w w'
set_option maxHeartbeats 16000000 in
set_option maxRecDepth 100000 in
theorem alike2_calls (N : Nat) : ∀ (n m : Nd), n.sz ≤ N → Ro n → Ro m → Td n → Td m → ∀ (k' : Int) (t' : ByteArray) (kA' : Option Addr) (kn' kc' : Nat) (nA' : Option Addr) (nn' nc' : Nat) (k'' : Int) (t'' : ByteArray) (kA'' : Option Addr) (kn'' kc'' : Nat) (nA'' : Option Addr) (nn'' nc'' : Nat) (w : World), NdAt w (fun _ => True) n [.int .i64 k', .string t', .slice kA' kn' kc', .slice nA' nn' nc'] → NdAt w (fun _ => True) m [.int .i64 k'', .string t'', .slice kA'' kn'' kc'', .slice nA'' nn'' nc''] →
    Calls Try.prog 7 #[.agg #[.int .i64 k', .string t', .slice kA' kn' kc', .slice nA' nn' nc'], .agg #[.int .i64 k'', .string t'', .slice kA'' kn'' kc'', .slice nA'' nn'' nc'']] w (BolA (alike n m) w) := by
  induction N with
  | zero => intro n m hn; cases n; simp [Nd.sz] at hn
  | succ N IH =>
    rintro ⟨k, t, ks, kids⟩ ⟨k2, t2, ks2, kids2⟩ hn hro hro2 htd htd2 k' t' kA' kn' kc' nA' nn' nc' k'' t'' kA'' kn'' kc'' nA'' nn'' nc'' w hat hat2
    obtain ⟨kA, kc, nA, nc, hcs, hkc, hnc, hkeys, hks, hkids⟩ := hat.open
    simp only [List.cons.injEq, and_true, Value.int.injEq, Value.string.injEq, Value.slice.injEq, true_and] at hcs
    obtain ⟨e1, e2, ⟨e3, e4, e5⟩, e6, e7, e8⟩ := hcs
    obtain rfl := e1.symm; obtain rfl := e2.symm; obtain rfl := e3.symm; obtain rfl := e4.symm; obtain rfl := e5.symm; obtain rfl := e6.symm; obtain rfl := e7.symm; obtain rfl := e8.symm
    obtain ⟨jA, jc, mA, mc, hcs, hjc, hmc, hjeys, hjs, hjids⟩ := hat2.open
    simp only [List.cons.injEq, and_true, Value.int.injEq, Value.string.injEq, Value.slice.injEq, true_and] at hcs
    obtain ⟨e1, e2, ⟨e3, e4, e5⟩, e6, e7, e8⟩ := hcs
    obtain rfl := e1.symm; obtain rfl := e2.symm; obtain rfl := e3.symm; obtain rfl := e4.symm; obtain rfl := e5.symm; obtain rfl := e6.symm; obtain rfl := e7.symm; obtain rfl := e8.symm
    unfold Ro at hro hro2
    unfold Td at htd htd2
    have hkl : ks.length ≤ 140737488351232 := by have := hro.1.2.1; omega
    have hnl : kids.length ≤ 140737488351232 := by have := hro.1.1; omega
    have hkl2 : ks2.length ≤ 140737488351232 := by have := hro2.1.2.1; omega
    have hnl2 : kids2.length ≤ 140737488351232 := by have := hro2.1.1; omega
    have HI := Aside0.mk (fun i j (hi : i < kids.length) (hj : j < kids2.length) k' t' kA' kn' kc' nA' nn' nc' k'' t'' kA'' kn'' kc'' nA'' nn'' nc'' W (hAt : NdAt W (fun _ => True) kids[i] [.int .i64 k', .string t', .slice kA' kn' kc', .slice nA' nn' nc']) (hAt2 : NdAt W (fun _ => True) kids2[j] [.int .i64 k'', .string t'', .slice kA'' kn'' kc'', .slice nA'' nn'' nc'']) => IH kids[i] kids2[j] (by have := Nd.sz_kid (k := k) (t := t) (ks := ks) (List.getElem_mem hi); omega) (ros_iff.1 hro.2 _ (List.getElem_mem hi)) (ros_iff.1 hro2.2 _ (List.getElem_mem hj)) (tds_iff.1 htd.2 _ (List.getElem_mem hi)) (tds_iff.1 htd2.2 _ (List.getElem_mem hj)) k' t' kA' kn' kc' nA' nn' nc' k'' t'' kA'' kn'' kc'' nA'' nn'' nc'' W hAt hAt2)
    have HK := Aside0.mk hkids
    have HJ := Aside0.mk hjids
    have HKS := Aside0.mk hks
    have HJS := Aside0.mk hjs
    have HMB : Aside0 ((k = 6 → ks.length = kids.length) ∧ (k2 = 6 → ks2.length = kids2.length)) := ⟨fun h => by
      rcases htd.1 with h2 | h2 | h2 | h2 | h2
      · omega
      · omega
      · omega
      · omega
      · exact h2.2.2, fun h => by
      rcases htd2.1 with h2 | h2 | h2 | h2 | h2
      · omega
      · omega
      · omega
      · omega
      · exact h2.2.2⟩
    have HRO0 := Aside0.mk (R2.start w (.cells #[.int .i64 k, .string t, .slice kA ks.length kc, .slice nA kids.length nc] 25) (.cells #[.int .i64 k2, .string t2, .slice jA ks2.length jc, .slice mA kids2.length mc] 25))
    obtain ⟨r, hr⟩ : ∃ r, r = alike (.mk k t ks kids) (.mk k2 t2 ks2 kids2) := ⟨_, rfl⟩
    have HF : Aside0 (r = true ↔ (k = k2 ∧ t = t2 ∧ kids.length = kids2.length ∧ ks.length = ks2.length) ∧ ∀ j, OkAt (decide (k = 6)) ks kids (.mk k2 t2 ks2 kids2) j) := ⟨by rw [hr]; exact alike_iff k t ks kids (.mk k2 t2 ks2 kids2)⟩
    rw [← hr]
    clear hat hat2 hkeys hks hkids hjeys hjs hjids hro hro2 IH hn htd htd2 hr
    go_enter Try.func7, Try.ntmps7
    go_upto_region 1 with fail
    generalize ((w.alloc (.cells #[.int .i64 k, .string t, .slice kA ks.length kc, .slice nA kids.length nc] 25)).alloc (.cells #[.int .i64 k2, .string t2, .slice jA ks2.length jc, .slice mA kids2.length mc] 25)) = W0 at HRO0 ⊢
    obtain ⟨x0, x1, x2, x3, xf⟩ := nd_cells HRO0.out.b1
    obtain ⟨y0, y1, y2, y3, yf⟩ := nd_cells HRO0.out.b2
    have hff : ¬ (k = k2 ∧ t = t2 ∧ kids.length = kids2.length ∧ ks.length = ks2.length) → r = false := fun h => by
      cases r with
      | false => rfl
      | true => exact absurd (HF.out.1 rfl).1 h
    by_cases g1 : k = k2
    rotate_left
    · have hd : (k != k2) = true := by simpa using g1
      have hda : (k == k2) = false := by simpa using g1
      have hdb : decide (k = k2) = false := decide_eq_false g1
      have hdc : (k = k2) = False := eq_false g1
      obtain rfl := hff (fun h => g1 h.1)
      clear hff g1
      go_wp2_with fail
      go_ret
      exact ⟨rfl, HRO0.out.below⟩
    have hd1 : (k != k2) = false := by simpa using g1
    have hd1a : (k == k2) = true := by simpa using g1
    have hd1c : (k = k2) = True := eq_true g1
    by_cases g2 : t = t2
    rotate_left
    · have hd : (t.toList != t2.toList) = true := by have := toList_ne g2; rw [bne, this]; rfl
      have hda : (t.toList == t2.toList) = false := toList_ne g2
      have hdc : (t.toList = t2.toList) = False := eq_false (fun e => by rw [e] at hda; simp at hda)
      have hdb : decide (t.toList = t2.toList) = false := by simp [hdc]
      obtain rfl := hff (fun h => g2 h.2.1)
      clear hff g1 g2
      go_wp2_with fail
      go_ret
      exact ⟨rfl, HRO0.out.below⟩
    have hd2 : (t.toList != t2.toList) = false := by subst g2; simp
    have hd2a : (t.toList == t2.toList) = true := by subst g2; simp
    have hd2c : (t.toList = t2.toList) = True := by subst g2; simp
    by_cases g3 : kids.length = kids2.length
    rotate_left
    · have hd : ((kids.length : Int) != (kids2.length : Int)) = true := by simp; omega
      have hdc : ((kids.length : Int) = (kids2.length : Int)) = False := eq_false (by omega)
      have hda : ((kids.length : Int) == (kids2.length : Int)) = false := by simp; omega
      have hdb : decide ((kids.length : Int) = (kids2.length : Int)) = false := by simp; omega
      obtain rfl := hff (fun h => g3 h.2.2.1)
      clear hff g1 g2 g3
      go_wp2_with fail
      go_ret
      exact ⟨rfl, HRO0.out.below⟩
    have hd3 : ((kids.length : Int) != (kids2.length : Int)) = false := by simp; omega
    have hd3a : ((kids.length : Int) == (kids2.length : Int)) = true := by simp; omega
    have hd3c : ((kids.length : Int) = (kids2.length : Int)) = True := eq_true (by omega)
    by_cases g4 : ks.length = ks2.length
    rotate_left
    · have hd : ((ks.length : Int) != (ks2.length : Int)) = true := by simp; omega
      have hdc : ((ks.length : Int) = (ks2.length : Int)) = False := eq_false (by omega)
      have hda : ((ks.length : Int) == (ks2.length : Int)) = false := by simp; omega
      have hdb : decide ((ks.length : Int) = (ks2.length : Int)) = false := by simp; omega
      obtain rfl := hff (fun h => g4 h.2.2.2)
      clear hff g1 g2 g3 g4
      go_wp2_with fail
      go_ret
      exact ⟨rfl, HRO0.out.below⟩
    have hd4 : ((ks.length : Int) != (ks2.length : Int)) = false := by simp; omega
    have hd4a : ((ks.length : Int) == (ks2.length : Int)) = true := by simp; omega
    have hd4c : ((ks.length : Int) = (ks2.length : Int)) = True := eq_true (by omega)
    have HF : Aside0 (r = true ↔ ∀ j, OkAt (decide (k = 6)) ks kids (.mk k2 t2 ks2 kids2) j) := ⟨⟨fun h => (HF.out.1 h).2, fun h => HF.out.2 ⟨⟨g1, g2, g3, g4⟩, h⟩⟩⟩
    have HG := Aside0.mk (And.intro g1 (And.intro g3 g4))
    clear hff g1 g2 g3 g4
    go_wp2_with fail
    clear hd1 hd2 hd3 hd4 hd1a hd2a hd3a hd4a hd1c hd2c hd3c hd4c
    go_loopw [41] (fun v wr => ∃ i : Nat, v = .int .i64 (i : Int) ∧ i ≤ kids.length ∧ Aside0 (R2 w wr (.cells #[.int .i64 k, .string t, .slice kA ks.length kc, .slice nA kids.length nc] 25) (.cells #[.int .i64 k2, .string t2, .slice jA ks2.length jc, .slice mA kids2.length mc] 25) ∧ ∀ j, j < i → OkAt (decide (k = 6)) ks kids (.mk k2 t2 ks2 kids2) j)) (fun v _ => kids.length - (intOf v).toNat)
    case atStart => exact ⟨0, rfl, Nat.zero_le _, ⟨HRO0.out, fun j hj => absurd hj (Nat.not_lt_zero _)⟩⟩
    case round =>
      clear x0 x1 x2 x3 xf y0 y1 y2 y3 yf
      obtain ⟨i, rfl, hi, HR0⟩ := hrel
      by_cases hlt : i < kids.length
      · have HUP := Aside0.mk HR0.out.2
        have HR := Aside0.mk HR0.out.1
        clear HR0
        have HFN : Aside0 (¬ OkAt (decide (k = 6)) ks kids (.mk k2 t2 ks2 kids2) i → r = false) := ⟨fun h => by
          cases r with
          | false => rfl
          | true => exact absurd (HF.out.1 rfl i) h⟩
        obtain ⟨g, o, kk, t3, kA2, kn2, kc2, nA2, nn2, nc2, rfl, _, hgl, hkat, z0, z1, z2, z3⟩ := HK.out i hlt
        have hbw := HR.out.below
        rw [← hbw.cell (p := ⟨g, o + i * 4, none⟩) hgl] at z0
        rw [← hbw.cell (p := ⟨g, o + i * 4 + 1, none⟩) hgl] at z1
        rw [← hbw.cell (p := ⟨g, o + i * 4 + 2, none⟩) hgl] at z2
        rw [← hbw.cell (p := ⟨g, o + i * 4 + 3, none⟩) hgl] at z3
        have HAT := Aside0.mk hkat
        clear hkat
        obtain ⟨x0, x1, x2, x3, xf⟩ := nd_cells HR.out.b1
        go_upto_region 6 with fail
        have HRX := Aside0.mk (HR.out.next (below_alloc1 (w := wr) (.cells #[.int .i64 kk, .string t3, .slice kA2 kn2 kc2, .slice nA2 nn2 nc2] 25)))
        have HKX := Aside0.mk (heap_alloc_new wr (.cells #[.int .i64 kk, .string t3, .slice kA2 kn2 kc2, .slice nA2 nn2 nc2] 25))
        generalize hrs : wr.heap.size = B at HKX ⊢
        clear x0 x1 x2 x3 xf z0 z1 z2 z3 hbw hrs
        generalize (wr.alloc (.cells #[.int .i64 kk, .string t3, .slice kA2 kn2 kc2, .slice nA2 nn2 nc2] 25)) = W1 at HRX HKX ⊢
        obtain ⟨x0, x1, x2, x3, xf⟩ := nd_cells HRX.out.b1
        by_cases h6 : k = 6
        · have hik : i < ks.length := by have := HMB.out.1 h6; omega
          obtain ⟨g3, o3, rfl, _, hgl3, hc⟩ := HKS.out i hik
          have hbw := HRX.out.below
          rw [← hbw.cell (p := ⟨g3, o3 + i, none⟩) hgl3] at hc
          have CM := Aside0.mk (fun W (hW : Below W1.heap.size W1 W) => member_calls k2 t2 ks2 (ks.getD i noStr) jA jc mA kids2.length mc W hkl2 (fun j hj => by
            obtain ⟨g', o', e, _, hl, hcc⟩ := HJS.out j hj
            have hb2 := below_step hbw hW
            exact ⟨g', o', e, Nat.lt_of_lt_of_le hl hb2.size, by rw [hb2.cell (p := ⟨g', o' + j, none⟩) hl]; exact hcc⟩))
          have HPN := Aside0.mk (fun h => pick_none (ks2 := ks2) (kids2 := kids2) (t2 := t2) (k2 := k2) (i := i) (ks := ks) h6 h)
          have HPS := Aside0.mk (fun j h hj => pick_name (ks2 := ks2) (kids2 := kids2) (t2 := t2) (k2 := k2) (i := i) (j := j) (ks := ks) h6 h hj)
          unfold IntA at CM
          have HJL : Aside0 (ks2.length = kids2.length) := ⟨HMB.out.2 (HG.out.1 ▸ h6)⟩
          generalize ks.getD i noStr = x at hc CM HPN HPS
          obtain ⟨y0, y1, y2, y3, yf⟩ := nd_cells HRX.out.b2
          have KP : Aside0 (∀ w', Below W1.heap.size W1 w' → w'.cell? ⟨w.heap.size + 1, 0, none⟩ = some (.int .i64 k2) ∧ w'.cell? ⟨w.heap.size + 1, 1, none⟩ = some (.string t2) ∧ w'.cell? ⟨w.heap.size + 1, 2, none⟩ = some (.slice jA ks2.length jc) ∧ w'.cell? ⟨w.heap.size + 1, 3, none⟩ = some (.slice mA kids2.length mc) ∧ w'.cell? ⟨w.heap.size, 2, none⟩ = some (.slice (some ⟨g3, o3, none⟩) ks.length kc) ∧ w'.cell? ⟨g3, o3 + i, none⟩ = some (.string x)) := ⟨fun w' hB => by
            obtain ⟨_, _, x2, _, _⟩ := nd_cells (HRX.out.next hB).b1
            obtain ⟨y0, y1, y2, y3, _⟩ := nd_cells (HRX.out.next hB).b2
            exact ⟨y0, y1, y2, y3, x2, (hB.cell (p := ⟨g3, o3 + i, none⟩) (Nat.lt_of_lt_of_le hgl3 hbw.size)).trans hc⟩⟩
          have L0 : Aside0 (Below W1.heap.size W1 W1.drew) := ⟨(Below.refl _ _).drew⟩
          have hd6 : (k == 6) = true := by simpa using h6
          clear hbw h6
          cases hmm : memb ks2 x with
          | none =>
            rw [hmm] at CM
            have HP := Aside0.mk (HPN.out hmm)
            obtain rfl := HFN.out (no_ok hlt HP.out)
            clear hmm
            obtain ⟨z, hz⟩ : ∃ z, z = ixOf none := ⟨_, rfl⟩
            rw [← hz] at CM
            have hd : decide (z < 0) = true := by rw [hz]; rfl
            clear hz
            go_upto_region 8 with fail
            go_region_held3 (fun w' => w'.cell? ⟨w.heap.size + 1, 0, none⟩ = some (.int .i64 k2) ∧ w'.cell? ⟨w.heap.size + 1, 1, none⟩ = some (.string t2) ∧ w'.cell? ⟨w.heap.size + 1, 2, none⟩ = some (.slice jA ks2.length jc) ∧ w'.cell? ⟨w.heap.size + 1, 3, none⟩ = some (.slice mA kids2.length mc) ∧ w'.cell? ⟨w.heap.size, 2, none⟩ = some (.slice (some ⟨g3, o3, none⟩) ks.length kc) ∧ w'.cell? ⟨g3, o3 + i, none⟩ = some (.string x))
              (first | exact KP.out _ (Below.refl _ _) | exact KP.out _ L0.out | exact KP.out _ L1.out)
              (first | (go_at_call 16; refine (CM.out _ L0.out).mono ?_; rintro e w1 ⟨rfl, hb1⟩; have L1 := Aside0.mk (below_step L0.out hb1)) | fail "none")
            all_goals
              have HRX := Aside0.mk (HRX.out.next (below_step ((Below.refl _ _).drew) hb1))
              clear x0 x1 x2 x3 xf y0 y1 y2 y3 yf hc
              go_upto_region 9 with fail
              go_quiet (fail)
              all_goals
                go_wp2_with fail
                go_ret
                exact ⟨rfl, HRX.out.below.trans ⟨rfl, rfl, rfl, Nat.le_refl _, fun _ _ => rfl⟩⟩
          | some j =>
            rw [hmm] at CM
            obtain ⟨hj1, _⟩ := memb_lt hmm
            have hj2 : j < kids2.length := by rw [← HJL.out]; exact hj1
            have HP := Aside0.mk (HPS.out j hmm hj2)
            clear hmm
            simp only [ixOf] at CM
            obtain ⟨g', o', k3, t3', kA3, kn3, kc3, nA3, nn3, nc3, rfl, _, hgl2, hjat, q0, q1, q2, q3⟩ := HJ.out j hj2
            have HJAT := Aside0.mk hjat
            clear hjat
            obtain ⟨bb, hbb⟩ : ∃ bb, bb = alike kids[i] kids2[j] := ⟨_, rfl⟩
            have HBB := Aside0.mk hbb
            clear hbb
            go_upto_region 8 with fail
            go_region_held3 (fun w' => w'.cell? ⟨w.heap.size + 1, 0, none⟩ = some (.int .i64 k2) ∧ w'.cell? ⟨w.heap.size + 1, 1, none⟩ = some (.string t2) ∧ w'.cell? ⟨w.heap.size + 1, 2, none⟩ = some (.slice jA ks2.length jc) ∧ w'.cell? ⟨w.heap.size + 1, 3, none⟩ = some (.slice (some ⟨g', o', none⟩) kids2.length mc) ∧ w'.cell? ⟨w.heap.size, 2, none⟩ = some (.slice (some ⟨g3, o3, none⟩) ks.length kc) ∧ w'.cell? ⟨g3, o3 + i, none⟩ = some (.string x))
              (first | exact KP.out _ (Below.refl _ _) | exact KP.out _ L0.out | exact KP.out _ L1.out)
              (first | (go_at_call 16; refine (CM.out _ L0.out).mono ?_; rintro e w1 ⟨rfl, hb1⟩; have L1 := Aside0.mk (below_step L0.out hb1)) | fail "none")
            all_goals
              clear x0 x1 x2 x3 xf y0 y1 y2 y3 yf hc
              have HKX := Aside0.mk (((below_step ((Below.refl _ _).drew) hb1).block _ (Array.getElem?_eq_some_iff.1 HKX.out).1).trans HKX.out)
              have HRX := Aside0.mk (HRX.out.next (below_step ((Below.refl _ _).drew) hb1))
              have hbx := HRX.out.below
              obtain ⟨y0, y1, y2, y3, yf⟩ := nd_cells HRX.out.b2
              obtain ⟨u0, u1, u2, u3, uf⟩ := nd_cells HKX.out
              have q0' := (hbx.cell (p := ⟨g', o' + j * 4, none⟩) hgl2).trans q0
              have q1' := (hbx.cell (p := ⟨g', o' + j * 4 + 1, none⟩) hgl2).trans q1
              have q2' := (hbx.cell (p := ⟨g', o' + j * 4 + 2, none⟩) hgl2).trans q2
              have q3' := (hbx.cell (p := ⟨g', o' + j * 4 + 3, none⟩) hgl2).trans q3
              have HC := Aside0.mk (fun W (hW : Below w1.heap.size w1 W) => HI.out i j hlt hj2 kk t3 kA2 kn2 kc2 nA2 nn2 nc2 k3 t3' kA3 kn3 kc3 nA3 nn3 nc3 W (HAT.out.below (below_step hbx hW)) (HJAT.out.below (below_step hbx hW)))
              unfold BolA at HC
              rw [← HBB.out] at HC
              have KQ : Aside0 (∀ w', Below w1.heap.size w1 w' → w'.cell? ⟨w.heap.size + 1, 3, none⟩ = some (.slice (some ⟨g', o', none⟩) kids2.length mc) ∧ w'.cell? ⟨B, 0, none⟩ = some (.int .i64 kk) ∧ w'.cell? ⟨B, 1, none⟩ = some (.string t3) ∧ w'.cell? ⟨B, 2, none⟩ = some (.slice kA2 kn2 kc2) ∧ w'.cell? ⟨B, 3, none⟩ = some (.slice nA2 nn2 nc2) ∧ w'.cell? ⟨g', o' + j * 4, none⟩ = some (.int .i64 k3) ∧ w'.cell? ⟨g', o' + j * 4 + 1, none⟩ = some (.string t3') ∧ w'.cell? ⟨g', o' + j * 4 + 2, none⟩ = some (.slice kA3 kn3 kc3) ∧ w'.cell? ⟨g', o' + j * 4 + 3, none⟩ = some (.slice nA3 nn3 nc3)) := ⟨fun w' hB => by
                obtain ⟨_, _, _, y3, _⟩ := nd_cells (HRX.out.next hB).b2
                obtain ⟨u0, u1, u2, u3, _⟩ := nd_cells ((hB.block _ (Array.getElem?_eq_some_iff.1 HKX.out).1).trans HKX.out)
                have hg := Nat.lt_of_lt_of_le hgl2 hbx.size
                exact ⟨y3, u0, u1, u2, u3, (hB.cell (p := ⟨g', o' + j * 4, none⟩) hg).trans q0', (hB.cell (p := ⟨g', o' + j * 4 + 1, none⟩) hg).trans q1', (hB.cell (p := ⟨g', o' + j * 4 + 2, none⟩) hg).trans q2', (hB.cell (p := ⟨g', o' + j * 4 + 3, none⟩) hg).trans q3'⟩⟩
              have M0 : Aside0 (Below w1.heap.size w1 w1.drew) := ⟨(Below.refl _ _).drew⟩
              have hd : decide ((j : Int) < 0) = false := by simp
              clear hbx y0 y1 y2 y3 yf u0 u1 u2 u3 uf q0 q1 q2 q3 q0' q1' q2' q3'
              cases bb with
              | true =>
                go_upto_region 9 with fail
                go_region_held3 (fun w' => w'.cell? ⟨w.heap.size + 1, 3, none⟩ = some (.slice (some ⟨g', o', none⟩) kids2.length mc) ∧ w'.cell? ⟨B, 0, none⟩ = some (.int .i64 kk) ∧ w'.cell? ⟨B, 1, none⟩ = some (.string t3) ∧ w'.cell? ⟨B, 2, none⟩ = some (.slice kA2 kn2 kc2) ∧ w'.cell? ⟨B, 3, none⟩ = some (.slice nA2 nn2 nc2) ∧ w'.cell? ⟨g', o' + j * 4, none⟩ = some (.int .i64 k3) ∧ w'.cell? ⟨g', o' + j * 4 + 1, none⟩ = some (.string t3') ∧ w'.cell? ⟨g', o' + j * 4 + 2, none⟩ = some (.slice kA3 kn3 kc3) ∧ w'.cell? ⟨g', o' + j * 4 + 3, none⟩ = some (.slice nA3 nn3 nc3))
                  (first | exact KQ.out _ (Below.refl _ _) | exact KQ.out _ M0.out | exact KQ.out _ M1.out)
                  (first | (go_at_call 7; refine (HC.out _ M0.out).mono ?_; rintro e w2 ⟨rfl, hb2⟩; have M1 := Aside0.mk (below_step M0.out hb2)) | fail "none")
                all_goals
                  go_wp2_with fail
                  go_roundw
                  case rel => exact ⟨i + 1, by go_num, by omega, ⟨HRX.out.next (below_step ((Below.refl _ _).drew) hb2), ok_upto HUP.out HP.out (fun _ => HBB.out.symm)⟩⟩
                  case measure => simp [intOf]; omega
              | false =>
                obtain rfl := HFN.out (not_ok hlt HP.out HBB.out.symm)
                go_upto_region 9 with fail
                go_region_held3 (fun w' => w'.cell? ⟨w.heap.size + 1, 3, none⟩ = some (.slice (some ⟨g', o', none⟩) kids2.length mc) ∧ w'.cell? ⟨B, 0, none⟩ = some (.int .i64 kk) ∧ w'.cell? ⟨B, 1, none⟩ = some (.string t3) ∧ w'.cell? ⟨B, 2, none⟩ = some (.slice kA2 kn2 kc2) ∧ w'.cell? ⟨B, 3, none⟩ = some (.slice nA2 nn2 nc2) ∧ w'.cell? ⟨g', o' + j * 4, none⟩ = some (.int .i64 k3) ∧ w'.cell? ⟨g', o' + j * 4 + 1, none⟩ = some (.string t3') ∧ w'.cell? ⟨g', o' + j * 4 + 2, none⟩ = some (.slice kA3 kn3 kc3) ∧ w'.cell? ⟨g', o' + j * 4 + 3, none⟩ = some (.slice nA3 nn3 nc3))
                  (first | exact KQ.out _ (Below.refl _ _) | exact KQ.out _ M0.out | exact KQ.out _ M1.out)
                  (first | (go_at_call 7; refine (HC.out _ M0.out).mono ?_; rintro e w2 ⟨rfl, hb2⟩; have M1 := Aside0.mk (below_step M0.out hb2)) | fail "none")
                all_goals
                  go_wp2_with fail
                  go_ret
                  exact ⟨rfl, (HRX.out.next (below_step ((Below.refl _ _).drew) hb2)).below⟩
        · have hd6 : (k == 6) = false := by simpa using h6
          have hj2 : i < kids2.length := by rw [← HG.out.2.1]; exact hlt
          have HP := Aside0.mk (pick_at (ks := ks) (ks2 := ks2) (t2 := t2) (k2 := k2) h6 hj2)
          clear h6
          obtain ⟨g', o', k3, t3', kA3, kn3, kc3, nA3, nn3, nc3, rfl, _, hgl2, hjat, q0, q1, q2, q3⟩ := HJ.out i hj2
          have HJAT := Aside0.mk hjat
          clear hjat
          obtain ⟨bb, hbb⟩ : ∃ bb, bb = alike kids[i] kids2[i] := ⟨_, rfl⟩
          have HBB := Aside0.mk hbb
          clear hbb
          have hbx := HRX.out.below
          obtain ⟨y0, y1, y2, y3, yf⟩ := nd_cells HRX.out.b2
          obtain ⟨u0, u1, u2, u3, uf⟩ := nd_cells HKX.out
          have q0' := (hbx.cell (p := ⟨g', o' + i * 4, none⟩) hgl2).trans q0
          have q1' := (hbx.cell (p := ⟨g', o' + i * 4 + 1, none⟩) hgl2).trans q1
          have q2' := (hbx.cell (p := ⟨g', o' + i * 4 + 2, none⟩) hgl2).trans q2
          have q3' := (hbx.cell (p := ⟨g', o' + i * 4 + 3, none⟩) hgl2).trans q3
          have HC := Aside0.mk (fun W (hW : Below W1.heap.size W1 W) => HI.out i i hlt hj2 kk t3 kA2 kn2 kc2 nA2 nn2 nc2 k3 t3' kA3 kn3 kc3 nA3 nn3 nc3 W (HAT.out.below (below_step hbx hW)) (HJAT.out.below (below_step hbx hW)))
          unfold BolA at HC
          rw [← HBB.out] at HC
          have KQ : Aside0 (∀ w', Below W1.heap.size W1 w' → w'.cell? ⟨w.heap.size + 1, 3, none⟩ = some (.slice (some ⟨g', o', none⟩) kids2.length mc) ∧ w'.cell? ⟨B, 0, none⟩ = some (.int .i64 kk) ∧ w'.cell? ⟨B, 1, none⟩ = some (.string t3) ∧ w'.cell? ⟨B, 2, none⟩ = some (.slice kA2 kn2 kc2) ∧ w'.cell? ⟨B, 3, none⟩ = some (.slice nA2 nn2 nc2) ∧ w'.cell? ⟨g', o' + i * 4, none⟩ = some (.int .i64 k3) ∧ w'.cell? ⟨g', o' + i * 4 + 1, none⟩ = some (.string t3') ∧ w'.cell? ⟨g', o' + i * 4 + 2, none⟩ = some (.slice kA3 kn3 kc3) ∧ w'.cell? ⟨g', o' + i * 4 + 3, none⟩ = some (.slice nA3 nn3 nc3)) := ⟨fun w' hB => by
            obtain ⟨_, _, _, y3, _⟩ := nd_cells (HRX.out.next hB).b2
            obtain ⟨u0, u1, u2, u3, _⟩ := nd_cells ((hB.block _ (Array.getElem?_eq_some_iff.1 HKX.out).1).trans HKX.out)
            have hg := Nat.lt_of_lt_of_le hgl2 hbx.size
            exact ⟨y3, u0, u1, u2, u3, (hB.cell (p := ⟨g', o' + i * 4, none⟩) hg).trans q0', (hB.cell (p := ⟨g', o' + i * 4 + 1, none⟩) hg).trans q1', (hB.cell (p := ⟨g', o' + i * 4 + 2, none⟩) hg).trans q2', (hB.cell (p := ⟨g', o' + i * 4 + 3, none⟩) hg).trans q3'⟩⟩
          have M0 : Aside0 (Below W1.heap.size W1 W1.drew) := ⟨(Below.refl _ _).drew⟩
          have hd : decide ((i : Int) < 0) = false := by simp
          clear hbx y0 y1 y2 y3 yf u0 u1 u2 u3 uf q0 q1 q2 q3 q0' q1' q2' q3'
          cases bb with
          | true =>
            go_upto_region 9 with fail
            go_region_held3 (fun w' => w'.cell? ⟨w.heap.size + 1, 3, none⟩ = some (.slice (some ⟨g', o', none⟩) kids2.length mc) ∧ w'.cell? ⟨B, 0, none⟩ = some (.int .i64 kk) ∧ w'.cell? ⟨B, 1, none⟩ = some (.string t3) ∧ w'.cell? ⟨B, 2, none⟩ = some (.slice kA2 kn2 kc2) ∧ w'.cell? ⟨B, 3, none⟩ = some (.slice nA2 nn2 nc2) ∧ w'.cell? ⟨g', o' + i * 4, none⟩ = some (.int .i64 k3) ∧ w'.cell? ⟨g', o' + i * 4 + 1, none⟩ = some (.string t3') ∧ w'.cell? ⟨g', o' + i * 4 + 2, none⟩ = some (.slice kA3 kn3 kc3) ∧ w'.cell? ⟨g', o' + i * 4 + 3, none⟩ = some (.slice nA3 nn3 nc3))
                  (first | exact KQ.out _ (Below.refl _ _) | exact KQ.out _ M0.out | exact KQ.out _ M1.out)
                  (first | (go_at_call 7; refine (HC.out _ M0.out).mono ?_; rintro e w2 ⟨rfl, hb2⟩; have M1 := Aside0.mk (below_step M0.out hb2)) | fail "none")
            all_goals
              go_wp2_with fail
              go_roundw
              case rel => exact ⟨i + 1, by go_num, by omega, ⟨HRX.out.next (below_step ((Below.refl _ _).drew) hb2), ok_upto HUP.out HP.out (fun _ => HBB.out.symm)⟩⟩
              case measure => simp [intOf]; omega
          | false =>
            obtain rfl := HFN.out (not_ok hlt HP.out HBB.out.symm)
            go_upto_region 9 with fail
            go_region_held3 (fun w' => w'.cell? ⟨w.heap.size + 1, 3, none⟩ = some (.slice (some ⟨g', o', none⟩) kids2.length mc) ∧ w'.cell? ⟨B, 0, none⟩ = some (.int .i64 kk) ∧ w'.cell? ⟨B, 1, none⟩ = some (.string t3) ∧ w'.cell? ⟨B, 2, none⟩ = some (.slice kA2 kn2 kc2) ∧ w'.cell? ⟨B, 3, none⟩ = some (.slice nA2 nn2 nc2) ∧ w'.cell? ⟨g', o' + i * 4, none⟩ = some (.int .i64 k3) ∧ w'.cell? ⟨g', o' + i * 4 + 1, none⟩ = some (.string t3') ∧ w'.cell? ⟨g', o' + i * 4 + 2, none⟩ = some (.slice kA3 kn3 kc3) ∧ w'.cell? ⟨g', o' + i * 4 + 3, none⟩ = some (.slice nA3 nn3 nc3))
                  (first | exact KQ.out _ (Below.refl _ _) | exact KQ.out _ M0.out | exact KQ.out _ M1.out)
                  (first | (go_at_call 7; refine (HC.out _ M0.out).mono ?_; rintro e w2 ⟨rfl, hb2⟩; have M1 := Aside0.mk (below_step M0.out hb2)) | fail "none")
            all_goals
              go_wp2_with fail
              go_ret
              exact ⟨rfl, (HRX.out.next (below_step ((Below.refl _ _).drew) hb2)).below⟩
      · obtain rfl : i = kids.length := by omega
        obtain rfl : r = true := HF.out.2 (fun j hj => HR0.out.2 j hj hj)
        obtain ⟨x0, x1, x2, x3, xf⟩ := nd_cells HR0.out.1.b1
        go_wp2_with fail
        go_ret
        exact ⟨rfl, HR0.out.1.below⟩
end Go.Proofs.Ytmomjgkbimeeoaa.G
