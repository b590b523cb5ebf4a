/- json-patch: values as interfaces hold them, made (plain). -/
import Derived.Test.YtmomjgkbimeeoaaGvVp
namespace Go.Proofs.Ytmomjgkbimeeoaa.G
set_option linter.unusedVariables false
set_option linter.unusedSimpArgs false
open Go.RowKit Go.Proofs.YtmomjgkbimeeoaaW.PrintWords

/-- A row being filled by plain. -/
structure PR1 (w wr : World) (bx : Obj) (g cap i : Nat) (kids : List Nd) : Prop where
  box : wr.heap[w.heap.size]? = some bx
  below : Below w.heap.size w wr
  row : ∃ us, wr.ownsRow (w.heap.size + 1) 20 1 (.slice (some ⟨g, 0, none⟩) i cap) i us ∧ VsAt wr (fun j => w.heap.size ≤ j ∧ j ≠ g) (kids.take i) us
set_option maxHeartbeats 16000000 in
set_option maxRecDepth 100000 in
theorem plain_ary (t : ByteArray) (ks : List ByteArray) (kids : List Nd) (kA : Option Addr) (kc : Nat) (nA : Option Addr) (nc : Nat) (w : World) (hnl : kids.length * 72 ≤ 140737488351232)
    (hkids : ∀ i (hi : i < kids.length), ∃ g o k' t' kA' kn' kc' nA' nn' nc', nA = some ⟨g, o, none⟩ ∧ g < w.heap.size ∧ NdAt w (fun _ => True) kids[i] [.int .i64 k', .string t', .slice kA' kn' kc', .slice nA' nn' nc'] ∧
        w.cell? ⟨g, o + i * 4, none⟩ = some (.int .i64 k') ∧ w.cell? ⟨g, o + i * 4 + 1, none⟩ = some (.string t') ∧ w.cell? ⟨g, o + i * 4 + 2, none⟩ = some (.slice kA' kn' kc') ∧ w.cell? ⟨g, o + i * 4 + 3, none⟩ = some (.slice nA' nn' nc'))
    (IH : ∀ i (hi : i < kids.length) k' t' kA' kn' kc' nA' nn' nc' W, NdAt W (fun _ => True) kids[i] [.int .i64 k', .string t', .slice kA' kn' kc', .slice nA' nn' nc'] → Calls Try.prog 21 #[.agg #[.int .i64 k', .string t', .slice kA' kn' kc', .slice nA' nn' nc']] W (ValA kids[i] W)) :
    Calls Try.prog 21 #[.agg #[.int .i64 5, .string t, .slice kA ks.length kc, .slice nA kids.length nc]] w (ValA (.mk 5 t ks kids) w) := by
  have HK := Aside0.mk hkids
  have HI := Aside0.mk IH
  have HNL := Aside0.mk hnl
  have hnl2 : kids.length ≤ 140737488351232 := by omega
  have hb0 := below_alloc1 (w := w) (.cells #[.int .i64 5, .string t, .slice kA ks.length kc, .slice nA kids.length nc] 33)
  have hz0 := heap_alloc_new w (.cells #[.int .i64 5, .string t, .slice kA ks.length kc, .slice nA kids.length nc] 33)
  have hs0 : (w.alloc (.cells #[.int .i64 5, .string t, .slice kA ks.length kc, .slice nA kids.length nc] 33)).heap.size = w.heap.size + 1 := World.size_alloc _ _
  have HNZ : Aside0 (kids.length ≤ 1099511627776 → False ∨ True) := ⟨fun _ => .inr trivial⟩
  clear hkids IH hnl
  go_enter Try.func21, Try.ntmps21
  go_upto_region 1 with fail
  generalize (w.alloc (.cells #[.int .i64 5, .string t, .slice kA ks.length kc, .slice nA kids.length nc] 33)) = W0 at hb0 hz0 hs0 ⊢
  obtain ⟨x0, x1, x2, x3, xf⟩ := nd_cells hz0
  have hmk := makeI_run W0 kids.length (by have := HNL.out; omega)
  go_upto_region 14 with fail
  have hb1 := below_alloc1 (w := W0) (.cells (madeCells #[.nilIface] kids.length) 20)
  have hz1 := heap_alloc_new W0 (.cells (madeCells #[.nilIface] kids.length) 20)
  rw [hs0] at hz1
  have HP : Aside0 (PR1 w (W0.alloc (.cells (madeCells #[.nilIface] kids.length) 20)) (.cells #[.int .i64 5, .string t, .slice kA ks.length kc, .slice nA kids.length nc] 33) (w.heap.size + 1) kids.length 0 kids) :=
    ⟨⟨(hb1.block _ (by omega)).trans hz0, below_step hb0 hb1, ⟨[], ⟨rfl, .inr ⟨_, kids.length, _, rfl, by omega, hz1, Nat.zero_le _, by unfold maxLen; omega, by rw [size_madeCells, Nat.mul_one], rfl⟩⟩, by rw [List.take_zero]; unfold VsAt; rfl⟩⟩⟩
  clear hmk hb0 hz0 hb1 hz1 x0 x1 x2 x3 xf
  generalize (W0.alloc (.cells (madeCells #[.nilIface] kids.length) 20)) = W1 at HP ⊢
  clear hs0
  obtain ⟨x0, x1, x2, x3, xf⟩ := nd_cells HP.out.box
  go_wp2_with fail
  go_loopw [3, 5, 35] (fun v3 _ v35 wr => ∃ (i g cap : Nat), v3 = .slice (some ⟨g, 0, none⟩) i cap ∧ v35 = .int .i64 (i : Int) ∧ i ≤ kids.length ∧ Aside0 (PR1 w wr (.cells #[.int .i64 5, .string t, .slice kA ks.length kc, .slice nA kids.length nc] 33) g cap i kids)) (fun _ _ v35 _ => kids.length - (intOf v35).toNat)
  case atStart => exact ⟨0, w.heap.size + 1, kids.length, rfl, rfl, Nat.zero_le _, HP⟩
  case round =>
    clear x0 x1 x2 x3 xf HP
    obtain ⟨i, g, cap, rfl, rfl, hi, HP⟩ := hrel
    by_cases hlt : i < kids.length
    · obtain ⟨g2, o2, k', t', kA', kn', kc', nA', nn', nc', rfl, hgl2, hkat, z0, z1, z2, z3⟩ := HK.out i hlt
      have hb := HP.out.below
      rw [← hb.cell (p := ⟨g2, o2 + i * 4, none⟩) hgl2] at z0
      rw [← hb.cell (p := ⟨g2, o2 + i * 4 + 1, none⟩) hgl2] at z1
      rw [← hb.cell (p := ⟨g2, o2 + i * 4 + 2, none⟩) hgl2] at z2
      rw [← hb.cell (p := ⟨g2, o2 + i * 4 + 3, none⟩) hgl2] at z3
      obtain ⟨us, hR, hV⟩ := HP.out.row
      have HR := Aside0.mk (And.intro hR (And.intro hV hkat))
      clear hR hV hkat hb hgl2
      go_upto_region 17 with fail
      have hBV := below_alloc1 (w := wr) (.cells #[.int .i64 k', .string t', .slice kA' kn' kc', .slice nA' nn' nc'] 33)
      have hzV := heap_alloc_new wr (.cells #[.int .i64 k', .string t', .slice kA' kn' kc', .slice nA' nn' nc'] 33)
      generalize (wr.alloc (.cells #[.int .i64 k', .string t', .slice kA' kn' kc', .slice nA' nn' nc'] 33)) = V at hBV hzV ⊢
      generalize wr.heap.size = hb at hzV ⊢
      obtain ⟨q0, q1, q2, q3, qf⟩ := nd_cells hzV
      have HC := Aside0.mk (HI.out i hlt k' t' kA' kn' kc' nA' nn' nc' V (NdAt.below (NdAt.below HR.out.2.2 HP.out.below) hBV))
      unfold ValA at HC
      have HBV := Aside0.mk hBV
      have HN : Aside0 ((i + 1) * 16 ≤ 140737488351232 ∧ i + 1 ≤ 140737488351232) := ⟨by have := HNL.out; omega⟩
      clear z0 z1 z2 z3 hzV hBV
      go_wp2_with (first
        | (at_builtin; refine app_lies2 rfl (.tmp 39) (.tmp 42) 49 20 1 16 _ rfl Try.underlying49 ifInfo20 rfl (by decide) (xs := us) (cells := [.nilIface]) HO HBW rfl (fun u hu => by simp at hu; subst hu; rfl) HN rfl _ rfl rfl ?_; intro g3 cap3 w2 hown2 hgr2 hat2)
        | (at_builtin; refine app_lies2 rfl (.tmp 39) (.tmp 42) 49 20 1 16 _ rfl Try.underlying49 ifInfo20 rfl (by decide) (xs := us) (cells := [.iface T u]) HO HBW rfl (fun u hu => by simp at hu; subst hu; rfl) HN rfl _ rfl rfl ?_; intro g3 cap3 w2 hown2 hgr2 hat2)
        | (go_at_call 21; refine HC.out.mono ?_; rintro e w1 ⟨v, rfl, hb1, hsh, hA⟩; have HO := Aside0.mk (own_kept HR.out.1 (fun j hj _ => (hb1.block j (Nat.lt_of_lt_of_le hj HBV.out.size)).trans (HBV.out.block j hj))); have HBW : Aside0 (w.heap.size + 1 ≤ w1.heap.size) := ⟨by have h1 := hb1.size; have h2 := HBV.out.size; have h3 := (Array.getElem?_eq_some_iff.1 HP.out.box).1; omega⟩; have HB1 := Aside0.mk hb1; clear hb1; rcases hsh with rfl | ⟨T, u, rfl⟩)
        | fail "none")
      all_goals
        go_roundw
        case rel =>
          have hbV : Below wr.heap.size wr w1 := below_step HBV.out HB1.out
          have hlow := (HR.out.1.lt g rfl)
          have hbl := (Array.getElem?_eq_some_iff.1 HP.out.box).1
          have hws := HP.out.below.size
          have hvs := HBV.out.size
          have h1s := HB1.out.size
          have hgg : g3 = g ∨ w1.heap.size < g3 := hat2.out.imp (fun e => (own_eq e).symm) id
          have hgrow : Below w.heap.size w w2 := below_grow (g0 := g) (below_step HP.out.below hbV) (by omega) hgr2.out (by omega)
          refine ⟨i + 1, g3, cap3, rfl, by go_num, by omega, ⟨⟨?_, hgrow, us ++ [_], hown2.out, ?_⟩⟩⟩
          · rw [hgr2.out.block _ (by omega) (fun e => by have := own_eq e.symm; omega), hbV.block _ hbl]
            exact HP.out.box
          · rw [List.take_succ_eq_append_getElem hlt]
            refine VsAt.snoc (VsAt.mono (F := fun j => (w.heap.size ≤ j ∧ j ≠ g) ∧ j < wr.heap.size) (fun j _ hF => ⟨hF.1.1, by omega⟩) (VsAt.kept (fun j hj hF => ?_) (VsAt.mono (fun j hj hF => ⟨hF, hj⟩) HR.out.2.1))) (VAt.mono (F := fun j => V.heap.size ≤ j ∧ j < w1.heap.size) (fun j _ hF => ⟨by omega, by omega⟩) (VAt.kept (fun j hj hF => ?_) (VAt.mono (fun j hj hF => ⟨hF, hj⟩) hA.out)))
            · rw [hgr2.out.block j (by omega) (fun e => by have := own_eq e.symm; omega), hbV.block j hj]
            · exact hgr2.out.block j hj (fun e => by have := own_eq e.symm; omega)
        case measure => simp [intOf]; omega
    · obtain rfl : i = kids.length := by omega
      go_wp2_with fail
      go_ret
      obtain ⟨us, hR, hV⟩ := HP.out.row
      rw [List.take_length] at hV
      refine ⟨_, rfl, HP.out.below, .inr ⟨_, _, rfl⟩, ⟨?_⟩⟩
      unfold VAt
      refine .inr (.inr (.inr (.inr (.inr (.inl ⟨rfl, g, cap, us, rfl, by have := (hR.lt g rfl).1; omega, (RowF.of hR (F := fun _ => True) (fun _ _ => trivial)).1, VsAt.mono (fun j _ hF => hF.1) hV⟩)))))
set_option maxHeartbeats 4000000 in
set_option maxRecDepth 100000 in
theorem plain_nul (t : ByteArray) (ks : List ByteArray) (kids : List Nd) (kA : Option Addr) (kn kc : Nat) (nA : Option Addr) (nn nc : Nat) (w : World) : Calls Try.prog 21 #[.agg #[.int .i64 0, .string t, .slice kA kn kc, .slice nA nn nc]] w (ValA (.mk 0 t ks kids) w) := by
  go_enter Try.func21, Try.ntmps21
  go_wp2_with fail
  go_ret
  exact ⟨_, rfl, below_alloc1 _, .inl rfl, ⟨by unfold VAt; exact .inl ⟨rfl, rfl⟩⟩⟩
set_option maxHeartbeats 4000000 in
set_option maxRecDepth 100000 in
theorem plain_false (t : ByteArray) (ks : List ByteArray) (kids : List Nd) (kA : Option Addr) (kn kc : Nat) (nA : Option Addr) (nn nc : Nat) (w : World) : Calls Try.prog 21 #[.agg #[.int .i64 1, .string t, .slice kA kn kc, .slice nA nn nc]] w (ValA (.mk 1 t ks kids) w) := by
  go_enter Try.func21, Try.ntmps21
  go_wp2_with fail
  go_ret
  exact ⟨_, rfl, below_alloc1 _, .inr ⟨_, _, rfl⟩, ⟨by unfold VAt; exact .inr (.inl ⟨rfl, rfl⟩)⟩⟩
set_option maxHeartbeats 4000000 in
set_option maxRecDepth 100000 in
theorem plain_true (t : ByteArray) (ks : List ByteArray) (kids : List Nd) (kA : Option Addr) (kn kc : Nat) (nA : Option Addr) (nn nc : Nat) (w : World) : Calls Try.prog 21 #[.agg #[.int .i64 2, .string t, .slice kA kn kc, .slice nA nn nc]] w (ValA (.mk 2 t ks kids) w) := by
  go_enter Try.func21, Try.ntmps21
  go_wp2_with fail
  go_ret
  exact ⟨_, rfl, below_alloc1 _, .inr ⟨_, _, rfl⟩, ⟨by unfold VAt; exact .inr (.inr (.inl ⟨rfl, rfl⟩))⟩⟩
set_option maxHeartbeats 4000000 in
set_option maxRecDepth 100000 in
theorem plain_num (t : ByteArray) (ks : List ByteArray) (kids : List Nd) (kA : Option Addr) (kn kc : Nat) (nA : Option Addr) (nn nc : Nat) (w : World) : Calls Try.prog 21 #[.agg #[.int .i64 3, .string t, .slice kA kn kc, .slice nA nn nc]] w (ValA (.mk 3 t ks kids) w) := by
  go_enter Try.func21, Try.ntmps21
  go_wp2_with fail
  go_ret
  exact ⟨_, rfl, below_alloc1 _, .inr ⟨_, _, rfl⟩, ⟨by unfold VAt; exact .inr (.inr (.inr (.inl ⟨rfl, rfl⟩)))⟩⟩
set_option maxHeartbeats 4000000 in
set_option maxRecDepth 100000 in
theorem plain_str (t : ByteArray) (ks : List ByteArray) (kids : List Nd) (kA : Option Addr) (kn kc : Nat) (nA : Option Addr) (nn nc : Nat) (w : World) : Calls Try.prog 21 #[.agg #[.int .i64 4, .string t, .slice kA kn kc, .slice nA nn nc]] w (ValA (.mk 4 t ks kids) w) := by
  go_enter Try.func21, Try.ntmps21
  go_wp2_with fail
  go_ret
  exact ⟨_, rfl, below_alloc1 _, .inr ⟨_, _, rfl⟩, ⟨by unfold VAt; exact .inr (.inr (.inr (.inr (.inl ⟨rfl, rfl⟩))))⟩⟩
set_option maxHeartbeats 4000000 in
set_option maxRecDepth 100000 in
theorem plain_doc (t : ByteArray) (ks : List ByteArray) (kids : List Nd) (kA : Option Addr) (kn kc : Nat) (nA : Option Addr) (nn nc : Nat) (w : World)
    (C : ∀ W, Below w.heap.size w W → Calls Try.prog 26 #[.agg #[.int .i64 6, .string t, .slice kA kn kc, .slice nA nn nc]] W (fun e w' => ∃ m us, e = .returned (.map (some m)) ∧ Below W.heap.size W w' ∧ Aside0 (W.heap.size ≤ m ∧ Mi w' m ks.length (fOf ks us) ∧ VsAt w' (fun j => W.heap.size ≤ j) kids us))) :
    Calls Try.prog 21 #[.agg #[.int .i64 6, .string t, .slice kA kn kc, .slice nA nn nc]] w (ValA (.mk 6 t ks kids) w) := by
  have HC := Aside0.mk C
  have hb0 := below_alloc1 (w := w) (.cells #[.int .i64 6, .string t, .slice kA kn kc, .slice nA nn nc] 33)
  have hz0 := heap_alloc_new w (.cells #[.int .i64 6, .string t, .slice kA kn kc, .slice nA nn nc] 33)
  clear C
  go_enter Try.func21, Try.ntmps21
  go_upto_region 1 with fail
  generalize (w.alloc (.cells #[.int .i64 6, .string t, .slice kA kn kc, .slice nA nn nc] 33)) = W0 at hb0 hz0 ⊢
  obtain ⟨x0, x1, x2, x3, xf⟩ := nd_cells hz0
  have HB := Aside0.mk hb0
  clear hz0 hb0
  go_wp2_with (first | (go_at_call 26; refine (HC.out _ HB.out).mono ?_; rintro e w1 ⟨m, us, rfl, hb1, hA⟩; have HB1 := Aside0.mk hb1; clear hb1))
  go_ret
  have h0 := HB.out.size
  refine ⟨_, rfl, below_step HB.out HB1.out, .inr ⟨_, _, rfl⟩, ⟨?_⟩⟩
  unfold VAt
  exact .inr (.inr (.inr (.inr (.inr (.inr ⟨rfl, m, us, rfl, Nat.le_trans h0 hA.out.1, hA.out.2.1, VsAt.mono (fun j _ hF => Nat.le_trans h0 hF) hA.out.2.2⟩)))))
theorem plain_calls (N : Nat) : ∀ (n : Nd), n.sz ≤ N → Td n → Uq n → Ro n → ∀ (k' : Int) (t' : ByteArray) (kA' : Option Addr) (kn' kc' : Nat) (nA' : Option Addr) (nn' nc' : Nat) (w : World), NdAt w (fun _ => True) n [.int .i64 k', .string t', .slice kA' kn' kc', .slice nA' nn' nc'] →
    Calls Try.prog 21 #[.agg #[.int .i64 k', .string t', .slice kA' kn' kc', .slice nA' nn' nc']] w (ValA n w) := by
  induction N with
  | zero => intro n hn; cases n; simp [Nd.sz] at hn
  | succ N IH =>
    rintro ⟨k, t, ks, kids⟩ hn htd huq hro k' t' kA' kn' kc' nA' nn' nc' w hat
    obtain ⟨kA, kc, nA, nc, hcs, hkc, hnc, hkeys, hks, hkids⟩ := hat.open
    simp only [List.cons.injEq, and_true, Value.int.injEq, Value.string.injEq, Value.slice.injEq, true_and] at hcs
    obtain ⟨e1, e2, ⟨e3, e4, e5⟩, e6, e7, e8⟩ := hcs
    obtain rfl := e1.symm; obtain rfl := e2.symm; obtain rfl := e3.symm; obtain rfl := e4.symm; obtain rfl := e5.symm; obtain rfl := e6.symm; obtain rfl := e7.symm; obtain rfl := e8.symm
    unfold Td at htd
    unfold Uq at huq
    unfold Ro at hro
    have IHk : ∀ i (hi : i < kids.length) k' t' kA' kn' kc' nA' nn' nc' W, NdAt W (fun _ => True) kids[i] [.int .i64 k', .string t', .slice kA' kn' kc', .slice nA' nn' nc'] → Calls Try.prog 21 #[.agg #[.int .i64 k', .string t', .slice kA' kn' kc', .slice nA' nn' nc']] W (ValA kids[i] W) :=
      fun i hi k' t' kA' kn' kc' nA' nn' nc' W hAt => IH kids[i] (by have := Nd.sz_kid (k := k) (t := t) (ks := ks) (List.getElem_mem hi); omega) (tds_iff.1 htd.2 _ (List.getElem_mem hi)) (uqs_iff.1 huq.2 _ (List.getElem_mem hi)) (ros_iff.1 hro.2 _ (List.getElem_mem hi)) k' t' kA' kn' kc' nA' nn' nc' W hAt
    have h1 := htd.1
    unfold Td1 at h1
    rcases h1 with ⟨h0, _, _, _⟩ | ⟨rfl, _, _, _⟩ | ⟨rfl, _, _⟩ | ⟨rfl, _, _⟩ | ⟨rfl, _, hl⟩
    · rcases h0 with rfl | rfl | rfl
      · exact plain_nul t ks kids kA ks.length kc nA kids.length nc w
      · exact plain_false t ks kids kA ks.length kc nA kids.length nc w
      · exact plain_true t ks kids kA ks.length kc nA kids.length nc w
    · exact plain_num t ks kids kA ks.length kc nA kids.length nc w
    · exact plain_str t ks kids kA ks.length kc nA kids.length nc w
    · refine plain_ary t ks kids kA kc nA nc w hro.1.1 (fun i hi => ?_) IHk
      obtain ⟨g, o, k', t', kA', kn', kc', nA', nn', nc', h1, _, h2, h3⟩ := hkids i hi
      exact ⟨g, o, k', t', kA', kn', kc', nA', nn', nc', h1, h2, h3⟩
    · refine plain_doc t ks kids kA ks.length kc nA kids.length nc w (fun W hW => plainMap_calls t ks kids kA kc nA nc W hl hro.1.1 huq.1 hro.1.2.2.2 (fun i hi => ?_) (fun i hi => ?_) IHk)
      · obtain ⟨g, o, h1, _, h2, h3⟩ := hks i hi
        exact ⟨g, o, h1, Nat.lt_of_lt_of_le h2 hW.size, (hW.cell (p := ⟨g, o + i, none⟩) h2).trans h3⟩
      · obtain ⟨g, o, k', t', kA', kn', kc', nA', nn', nc', h1, _, h2, h3, z0, z1, z2, z3⟩ := hkids i hi
        exact ⟨g, o, k', t', kA', kn', kc', nA', nn', nc', h1, Nat.lt_of_lt_of_le h2 hW.size, h3.below hW, (hW.cell (p := ⟨g, o + i * 4, none⟩) h2).trans z0, (hW.cell (p := ⟨g, o + i * 4 + 1, none⟩) h2).trans z1, (hW.cell (p := ⟨g, o + i * 4 + 2, none⟩) h2).trans z2, (hW.cell (p := ⟨g, o + i * 4 + 3, none⟩) h2).trans z3⟩
end Go.Proofs.Ytmomjgkbimeeoaa.G
