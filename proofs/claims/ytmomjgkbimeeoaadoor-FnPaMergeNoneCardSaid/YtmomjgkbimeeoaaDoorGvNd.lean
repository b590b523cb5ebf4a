/- json-patch: lazy nodes made of values: objects. -/
import Derived.Test.YtmomjgkbimeeoaaDoorGvNo
namespace Go.Proofs.YtmomjgkbimeeoaaDoor.G
set_option linter.unusedVariables false
set_option linter.unusedSimpArgs false
open Go.RowKit Go.Proofs.YtmomjgkbimeeoaaDoorW.PrintWords

/-- What the loop over an object's members keeps. -/
structure DcL (w wr : World) (bx : Obj) (ks : List ByteArray) (vs : List Lz) (b : Nat) : Prop where
  lz : LzAt wr (Rng (w.heap.size + 1) wr.heap.size) (.doc ks vs) (.pointer (some ⟨b, 0, none⟩))
  below : Below w.heap.size w wr
  box : wr.heap[w.heap.size]? = some bx
theorem DcO.setOpts {w : World} {F : Nat → Prop} {ks : List ByteArray} {vs : List Lz} {b rb db : Nat} {kA : Option Addr} {k kc m n : Nat} {sf opts : Value} {us : List Value} {F1 F2 : Nat → Prop} (h : DcO w F ks vs b rb db kA k kc m n sf opts us F1 F2) (o : Value) :
    DcO (w.setCell ⟨db, 3, none⟩ o) F ks vs b rb db kA k kc m n sf o us F1 F2 := by
  have hbd : b ≠ db := blk_ne h.blk h.doc (by decide)
  have hdm : m ≠ db := h.map.ne h.doc
  have hrd : (Value.slice kA k kc).ownBlock ≠ some db := h.row.ne h.doc (by decide)
  have hs : w.heap.size ≤ (w.setCell ⟨db, 3, none⟩ o).heap.size := by simp [World.setCell]
  have keep : ∀ j, j ≠ db → (w.setCell ⟨db, 3, none⟩ o).heap[j]? = w.heap[j]? := fun j hj => Below.heap_setCell _ _ _ _ hj
  exact ⟨h.len, h.lenv, h.fb, h.fdb, h.fm, (keep b hbd).trans h.blk, h.raw.kept hs (fun j _ hF => keep j (h.f1 j hF).2.2.1), res_put h.doc rfl, ⟨own_kept h.row.1 (fun j _ e => keep j (fun e2 => hrd (by rw [e, e2]))), h.row.2⟩, h.map.kept (keep m hdm), h.hn, h.kids.kept hs (fun j _ hF => keep j (h.f2 j hF).2.2.1), h.f1, h.f2, h.nodup⟩
/-- What a set leaves as it was. -/
theorem doc_far {V w1 w2 : World} {F : Nat → Prop} {ks : List ByteArray} {vs : List Lz} {b rb db : Nat} {kA : Option Addr} {k kc m n : Nat} {sf opts : Value} {us : List Value} {F1 F2 : Nat → Prop} {u : Value} {x : ByteArray} {e : Ending} {j : Nat} (O : DcO V F ks vs b rb db kA k kc m n sf opts us F1 F2) (hS : SetA db m n k kA kc sf opts ks (fOf ks us) x u w1 e w2) (hx : x ∉ ks) (hj : j < w1.heap.size) (h : w1.heap[j]? = V.heap[j]?) (h1 : j = b ∨ ¬ F j) : w2.heap[j]? = V.heap[j]? := by
  obtain ⟨g, cap, _, _, _, hk⟩ := hS.2.out.2.2.2.2.2.2 hx
  refine (hk j hj ?_ ?_ ?_).trans h
  · rcases h1 with rfl | h1
    · exact blk_ne O.blk O.doc (by decide)
    · exact fun e => h1 (by rw [e]; exact O.fdb)
  · rcases h1 with rfl | h1
    · exact Ne.symm (O.map.ne O.blk)
    · exact fun e => h1 (by rw [e]; exact O.fm)
  · intro e
    rcases h1 with rfl | h1
    · exact O.row.ne O.blk (by decide) e.symm
    · exact h1 (O.row.2 j e.symm)
theorem doc_round {w wr V w1 w2 : World} {bx : Obj} {ks : List ByteArray} {vs vs' : List Lz} {ks' : List ByteArray} {b rb db : Nat} {kA : Option Addr} {k kc m n : Nat} {sf opts : Value} {us : List Value} {F1 F2 : Nat → Prop} {t : Lz} {u : Value} {x : ByteArray} {e : Ending} (HL : DcL w wr bx ks vs b) (hV : Below wr.heap.size wr V) (O : DcO V (Rng (w.heap.size + 1) wr.heap.size) ks vs b rb db kA k kc m n sf opts us F1 F2)
    (hb : Below V.heap.size V w1) (ht : LzAt w1 (Rng V.heap.size w1.heap.size) t u) (hx : x ∉ ks) (hS : SetA db m n k kA kc sf opts ks (fOf ks us) x u w1 e w2) (hks : ks' = ks ++ [x]) (hvs : vs' = vs ++ [t]) : DcL w w2 bx ks' vs' b := by
  subst hks hvs
  have s0 := hV.size
  have s1 := hb.size
  have sw := HL.below.size
  have hbl : w.heap.size < wr.heap.size := (Array.getElem?_eq_some_iff.1 HL.box).1
  obtain ⟨h1, h2⟩ := O.put (fun j hj => by unfold Rng at hj; omega) hb ht hx hS
  have h3 := h2 w.heap.size (fun j hj => by unfold Rng at hj; omega) (by omega)
  have s3 := h3.size
  have s4 : w1.heap.size ≤ w2.heap.size := hS.2.out.2.2.2.1
  refine ⟨h1.mono (fun j hj => ?_), HL.below.trans ((hV.mono sw).trans h3), ?_⟩
  · unfold Rng at hj ⊢
    omega
  · rw [doc_far O hS hx (by omega) (hb.block _ (by omega)) (.inr (by unfold Rng; omega)), hV.block _ hbl]
    exact HL.box
/-- set of an open object's node. -/
theorem doc_set {V w1 : World} {F : Nat → Prop} {ks : List ByteArray} {vs : List Lz} {b rb db : Nat} {kA : Option Addr} {k kc m n : Nat} {sf opts : Value} {us : List Value} {F1 F2 : Nat → Prop} (O : DcO V F ks vs b rb db kA k kc m n sf opts us F1 F2) (hb : Below V.heap.size V w1) {u op : Value} {x : ByteArray} (hx : x.size ≤ maxLen) (hk : (k + 1) * 16 ≤ 140737488351232) :
    Calls Tryd.prog 74 #[.pointer (some ⟨db, 0, none⟩), .string x, u, op] w1 (SetA db m n k kA kc sf opts ks (fOf ks us) x u w1) := by
  have hdl : db < V.heap.size := (Array.getElem?_eq_some_iff.1 O.doc).1
  have hml : m < V.heap.size := O.map.lt
  exact set_calls db m n k kA kc sf opts ks (fOf ks us) x u op w1 ((hb.block db hdl).trans O.doc) (own_kept O.row.1 (fun g hg _ => hb.block g hg)) (O.row.ne O.doc (by decide)) (O.row.ne_map O.map) (O.map.kept (hb.block m hml)) hx hk O.hn
theorem far4 {w wr V w1 : World} {ks : List ByteArray} {vs : List Lz} {b rb db : Nat} {kA : Option Addr} {k kc m n gk : Nat} {sf opts : Value} {us : List Value} {F1 F2 : Nat → Prop} (O : DcO V (Rng (w.heap.size + 1) wr.heap.size) ks vs b rb db kA k kc m n sf opts us F1 F2) (hb : Below V.heap.size V w1) (h : V.heap.size = wr.heap.size + 1 ∧ w.heap.size < wr.heap.size ∧ gk < wr.heap.size ∧ gk < w.heap.size) :
    w1.heap[b]? = V.heap[b]? ∧ w1.heap[w.heap.size]? = V.heap[w.heap.size]? ∧ w1.heap[gk]? = V.heap[gk]? ∧ w1.heap[wr.heap.size]? = V.heap[wr.heap.size]? := by
  have h1 := O.fb
  unfold Rng at h1
  exact ⟨hb.block _ (by omega), hb.block _ (by omega), hb.block _ (by omega), hb.block _ (by omega)⟩
theorem doc_far4 {w wr V w1 w2 : World} {ks : List ByteArray} {vs : List Lz} {b rb db : Nat} {kA : Option Addr} {k kc m n gk : Nat} {sf opts : Value} {us : List Value} {F1 F2 : Nat → Prop} {u : Value} {x : ByteArray} {e : Ending} (O : DcO V (Rng (w.heap.size + 1) wr.heap.size) ks vs b rb db kA k kc m n sf opts us F1 F2) (hS : SetA db m n k kA kc sf opts ks (fOf ks us) x u w1 e w2) (hx : x ∉ ks) (hb : Below V.heap.size V w1) (h : V.heap.size = wr.heap.size + 1 ∧ w.heap.size < wr.heap.size ∧ gk < wr.heap.size ∧ gk < w.heap.size) :
    w2.heap[b]? = V.heap[b]? ∧ w2.heap[w.heap.size]? = V.heap[w.heap.size]? ∧ w2.heap[gk]? = V.heap[gk]? ∧ w2.heap[wr.heap.size]? = V.heap[wr.heap.size]? := by
  obtain ⟨e1, e2, e3, e4⟩ := far4 O hb h
  have h1 := O.fb
  have hs := hb.size
  unfold Rng at h1
  exact ⟨doc_far O hS hx (by omega) e1 (.inl rfl), doc_far O hS hx (by omega) e2 (.inr (by unfold Rng; omega)), doc_far O hS hx (by omega) e3 (.inr (by unfold Rng; omega)), doc_far O hS hx (by omega) e4 (.inr (by unfold Rng; omega))⟩
set_option maxHeartbeats 16000000 in
set_option maxRecDepth 100000 in
theorem node_doc (t : ByteArray) (ks : List ByteArray) (kids : List Nd) (kA : Option Addr) (kc : Nat) (nA : Option Addr) (nc : Nat) (opts : Option Addr) (w : World) (hkb : kids.length * 72 ≤ 140737488351232) (hks16 : ks.length * 16 ≤ 140737488351232) (hkz : ∀ x ∈ ks, x.size ≤ 140737488351232) (hlen : ks.length = kids.length) (hnd : ks.Nodup)
    (hkeys : ∀ i, i < ks.length → ∃ g o, kA = some ⟨g, o, none⟩ ∧ g < w.heap.size ∧ w.cell? ⟨g, o + i, none⟩ = some (.string (ks.getD i noStr)))
    (hkids : ∀ i (hi : i < kids.length), ∃ g o k' t' kA' kn' kc' nA' nn' nc', nA = some ⟨g, o, none⟩ ∧ g < w.heap.size ∧ NdAt w (fun _ => True) kids[i] [.int .i64 k', .string t', .slice kA' kn' kc', .slice nA' nn' nc'] ∧
        w.cell? ⟨g, o + i * 4, none⟩ = some (.int .i64 k') ∧ w.cell? ⟨g, o + i * 4 + 1, none⟩ = some (.string t') ∧ w.cell? ⟨g, o + i * 4 + 2, none⟩ = some (.slice kA' kn' kc') ∧ w.cell? ⟨g, o + i * 4 + 3, none⟩ = some (.slice nA' nn' nc'))
    (IH : ∀ i (hi : i < kids.length) k' t' kA' kn' kc' nA' nn' nc' W, NdAt W (fun _ => True) kids[i] [.int .i64 k', .string t', .slice kA' kn' kc', .slice nA' nn' nc'] → Calls Tryd.prog 60 #[.agg #[.int .i64 k', .string t', .slice kA' kn' kc', .slice nA' nn' nc'], .pointer opts] W (LzA (lz kids[i]) W)) :
    Calls Tryd.prog 60 #[.agg #[.int .i64 6, .string t, .slice kA ks.length kc, .slice nA kids.length nc], .pointer opts] w (LzA (.doc ks (lzs kids)) w) := by
  have CE := Aside0.mk (fun W => eobj_calls W)
  have HK := Aside0.mk hkids
  have HKS := Aside0.mk hkeys
  have HI := Aside0.mk IH
  have hkl : kids.length ≤ 140737488351232 := by omega
  have HKB := Aside0.mk (And.intro hkb (And.intro hks16 (And.intro hkz hnd)))
  unfold LzA at CE
  rw [hlen]
  have HLN := Aside0.mk hlen
  clear hkids hkeys IH hkb hks16 hkz hnd hlen
  go_enter Tryd.func60, Tryd.ntmps60
  go_wp2_with (first
    | (go_at_call 78; refine (CE.out _).mono ?_; rintro e w1 ⟨o, rfl, hb, hA⟩; obtain ⟨b, rb, db, kA0, kc0, m0, n0, sf0, opts0, us0, F10, F20, eo, O⟩ := hA.out.doc_open (k := 0) rfl; cases eo; obtain ⟨d0, d1, d2, d3, df⟩ := nd_cells O.blk; obtain ⟨c0, c1, c2, c3, cf⟩ := nd_cells O.doc; have O0 := Aside0.mk (O.setOpts (.pointer opts)); have hbx : w1.heap[w.heap.size]? = some (.cells #[.int .i64 6, .string t, .slice kA kids.length kc, .slice nA kids.length nc] 47) := (hb.block w.heap.size (by rw [World.size_alloc]; omega)).trans (heap_alloc_new _ _); obtain ⟨x0, x1, x2, x3, xf⟩ := nd_cells hbx; have hbd := O.fdb; unfold Rng at hbd; have hdw : w.heap.size ≠ db := (by rw [World.size_alloc] at hbd; omega); have HBX := Aside0.mk (And.intro hbx (And.intro hb (And.intro hdw hbd))); clear hA O hbx hb hbd))
  have HL0 : Aside0 (DcL w (w1.setCell ⟨db, 3, none⟩ (.pointer opts)) (.cells #[.int .i64 6, .string t, .slice kA kids.length kc, .slice nA kids.length nc] 47) (ks.take 0) (lzs (kids.take 0)) b) := ⟨by
    obtain ⟨h1, h2, h3, h4⟩ := HBX.out
    refine ⟨O0.out.shut.mono (fun g hg => ?_), ?_, ?_⟩
    · unfold Rng at hg ⊢
      rw [World.size_alloc] at hg
      simp only [World.setCell, Array.size_modify]
      omega
    · exact (below_step (below_alloc1 _) h2).setCell (by rw [World.size_alloc] at h4; show w.heap.size ≤ db; omega) _
    · rw [Below.heap_setCell _ _ _ _ h3]; exact h1⟩
  clear O0 HBX CE
  go_loopw [78] (fun v78 wr => ∃ i : Nat, v78 = .int .i64 (i : Int) ∧ i ≤ kids.length ∧ Aside0 (DcL w wr (.cells #[.int .i64 6, .string t, .slice kA kids.length kc, .slice nA kids.length nc] 47) (ks.take i) (lzs (kids.take i)) b)) (fun v78 _ => kids.length - (intOf v78).toNat)
  case atStart => exact ⟨0, rfl, Nat.zero_le _, HL0⟩
  case round =>
    clear x0 x1 x2 x3 xf d0 d1 d2 d3 df c0 c1 c2 c3 cf HL0
    obtain ⟨i, rfl, hi, HL⟩ := hrel
    by_cases hlt : i < kids.length
    · obtain ⟨g, o, k', t', kA2, kn2, kc2, nA2, nn2, nc2, rfl, hgl, hkat, z0, z1, z2, z3⟩ := HK.out i hlt
      obtain ⟨gk, ok, rfl, hgkl, hkc⟩ := HKS.out i (by rw [HLN.out]; exact hlt)
      obtain ⟨x, hxd⟩ : ∃ x, x = ks.getD i noStr := ⟨_, rfl⟩
      rw [← hxd] at hkc
      have hbw := HL.out.below
      rw [← hbw.cell (p := ⟨g, o + i * 4, none⟩) hgl] at z0
      rw [← hbw.cell (p := ⟨g, o + i * 4 + 1, none⟩) hgl] at z1
      rw [← hbw.cell (p := ⟨g, o + i * 4 + 2, none⟩) hgl] at z2
      rw [← hbw.cell (p := ⟨g, o + i * 4 + 3, none⟩) hgl] at z3
      rw [← hbw.cell (p := ⟨gk, ok + i, none⟩) hgkl] at hkc
      obtain ⟨x0, x1, x2, x3, xf⟩ := nd_cells HL.out.box
      have HKA := Aside0.mk (hkat.below hbw)
      have HXD := Aside0.mk hxd
      clear hkat hbw hxd
      go_upto_region 25 with fail
      have hV := below_alloc1 (w := wr) (.cells #[.int .i64 k', .string t', .slice kA2 kn2 kc2, .slice nA2 nn2 nc2] 47)
      have hz := heap_alloc_new wr (.cells #[.int .i64 k', .string t', .slice kA2 kn2 kc2, .slice nA2 nn2 nc2] 47)
      have hVs : (wr.alloc (.cells #[.int .i64 k', .string t', .slice kA2 kn2 kc2, .slice nA2 nn2 nc2] 47)).heap.size = wr.heap.size + 1 := World.size_alloc _ _
      generalize (wr.alloc (.cells #[.int .i64 k', .string t', .slice kA2 kn2 kc2, .slice nA2 nn2 nc2] 47)) = V at hV hz hVs ⊢
      have hwl : w.heap.size < wr.heap.size := (Array.getElem?_eq_some_iff.1 HL.out.box).1
      have hgkw : gk < wr.heap.size := by omega
      have hbV : V.heap[w.heap.size]? = some (.cells #[.int .i64 6, .string t, .slice (some ⟨gk, ok, none⟩) kids.length kc, .slice (some ⟨g, o, none⟩) kids.length nc] 47) := (hV.block _ hwl).trans HL.out.box
      rw [← hV.cell (p := ⟨gk, ok + i, none⟩) hgkw] at hkc
      clear x0 x1 x2 x3 xf z0 z1 z2 z3
      obtain ⟨x0, x1, x2, x3, xf⟩ := nd_cells hbV
      obtain ⟨y0, y1, y2, y3, yf⟩ := nd_cells hz
      go_upto_region 26 with fail
      obtain ⟨b', rb', db', kA', kc', m', n', sf', op', us', F1', F2', eb, O⟩ := (HL.out.lz.below hV).doc_open (k := i) (by rw [lzs_map, List.length_map, List.length_take]; omega)
      cases eb
      obtain ⟨d0, d1, d2, d3, df⟩ := nd_cells O.blk
      have HO := Aside0.mk O
      have HW0 := Aside0.mk hV
      have HLT := Aside0.mk (And.intro hVs (And.intro hwl (And.intro hgkw hgkl)))
      have hxni : x ∉ ks.take i := by
        rw [HXD.out]
        intro h
        obtain ⟨j, hj, e⟩ := List.getElem_of_mem h
        rw [List.length_take] at hj
        have hji : j < ks.length := by omega
        have hii : i < ks.length := by rw [HLN.out]; exact hlt
        have e2 : ks.getD j noStr = ks.getD i noStr := by
          rw [← e, List.getElem_take, List.getD_eq_getElem?_getD, List.getElem?_eq_getElem hji]
          rfl
        have h1 := memb_nodup HKB.out.2.2.2 j hji
        have h2 := memb_nodup HKB.out.2.2.2 i hii
        rw [e2, h2] at h1
        have := Option.some.inj h1
        omega
      have HX := Aside0.mk hxni
      have HC := Aside0.mk (HI.out i hlt k' t' kA2 kn2 kc2 nA2 nn2 nc2 V.drew (NdAt.below (NdAt.below HKA.out hV) ((Below.refl _ _).drew)))
      have KP : Aside0 (∀ w' : World, w'.heap[b]? = V.heap[b]? → w'.heap[w.heap.size]? = V.heap[w.heap.size]? → w'.heap[gk]? = V.heap[gk]? → w'.heap[wr.heap.size]? = V.heap[wr.heap.size]? → w'.cell? ⟨b, 1, none⟩ = some (.pointer (some ⟨db', 0, none⟩)) ∧ w'.cell? ⟨w.heap.size, 2, none⟩ = some (.slice (some ⟨gk, ok, none⟩) kids.length kc) ∧ w'.cell? ⟨gk, ok + i, none⟩ = some (.string x) ∧
          w'.cell? ⟨wr.heap.size, 0, none⟩ = some (.int .i64 k') ∧ w'.cell? ⟨wr.heap.size, 1, none⟩ = some (.string t') ∧ w'.cell? ⟨wr.heap.size, 2, none⟩ = some (.slice kA2 kn2 kc2) ∧ w'.cell? ⟨wr.heap.size, 3, none⟩ = some (.slice nA2 nn2 nc2)) := ⟨fun w' h1 h2 h3 h4 => by
        rw [World.cell?_of_block (w := V) (w' := w') h1, World.cell?_of_block (w := V) (w' := w') h2, World.cell?_of_block (w := V) (w' := w') h3, World.cell?_of_block (w := V) (w' := w') h4, World.cell?_of_block (w := V) (w' := w') h4, World.cell?_of_block (w := V) (w' := w') h4, World.cell?_of_block (w := V) (w' := w') h4]
        exact ⟨d1, x2, hkc, y0, y1, y2, y3⟩⟩
      have CS := Aside0.mk (fun (w1 : World) (u : Value) (hb : Below V.heap.size V w1) => doc_set HO.out hb (u := u) (x := x) (op := .pointer opts) (by have := HKB.out.2.2.1 x (by rw [HXD.out, List.getD_eq_getElem?_getD, List.getElem?_eq_getElem (show i < ks.length by rw [HLN.out]; exact hlt)]; exact List.getElem_mem _); unfold maxLen; omega) (by have := HKB.out.1; omega))
      unfold LzA at HC
      clear hV hz hVs O hwl hgkw hxni hbV hgkl hgl
      go_region_held3 (fun w' => w'.cell? ⟨b, 1, none⟩ = some (.pointer (some ⟨db', 0, none⟩)) ∧ w'.cell? ⟨w.heap.size, 2, none⟩ = some (.slice (some ⟨gk, ok, none⟩) kids.length kc) ∧ w'.cell? ⟨gk, ok + i, none⟩ = some (.string x) ∧
          w'.cell? ⟨wr.heap.size, 0, none⟩ = some (.int .i64 k') ∧ w'.cell? ⟨wr.heap.size, 1, none⟩ = some (.string t') ∧ w'.cell? ⟨wr.heap.size, 2, none⟩ = some (.slice kA2 kn2 kc2) ∧ w'.cell? ⟨wr.heap.size, 3, none⟩ = some (.slice nA2 nn2 nc2))
        (first | exact KP.out _ rfl rfl rfl rfl | exact KP.out _ E1.out.1 E1.out.2.1 E1.out.2.2.1 E1.out.2.2.2 | exact KP.out _ E2.out.1 E2.out.2.1 E2.out.2.2.1 E2.out.2.2.2)
        (first
          | (go_at_call 74; refine (CS.out w1 (.pointer o2) HB1.out).mono ?_; rintro e w2 hS; obtain ⟨rfl, hA2⟩ := hS; have E2 : Aside0 (w2.heap[b]? = V.heap[b]? ∧ w2.heap[w.heap.size]? = V.heap[w.heap.size]? ∧ w2.heap[gk]? = V.heap[gk]? ∧ w2.heap[wr.heap.size]? = V.heap[wr.heap.size]?) := ⟨doc_far4 HO.out ⟨rfl, hA2⟩ HX.out HB1.out HLT.out⟩)
          | (go_at_call 60; refine HC.out.mono ?_; rintro e w1 ⟨o2, rfl, hb1, hA1⟩; have HB1 : Aside0 (Below V.heap.size V w1) := ⟨below_step ((Below.refl _ _).drew) hb1⟩; have E1 : Aside0 (w1.heap[b]? = V.heap[b]? ∧ w1.heap[w.heap.size]? = V.heap[w.heap.size]? ∧ w1.heap[gk]? = V.heap[gk]? ∧ w1.heap[wr.heap.size]? = V.heap[wr.heap.size]?) := ⟨far4 HO.out HB1.out HLT.out⟩))
      all_goals go_wp2_with fail
      all_goals
        go_roundw
        case rel =>
          refine ⟨i + 1, by go_num, by omega, ⟨doc_round HL.out HW0.out HO.out HB1.out hA1.out HX.out ⟨rfl, hA2⟩ ?_ ?_⟩⟩
          · rw [List.take_succ_eq_append_getElem (show i < ks.length by rw [HLN.out]; exact hlt), HXD.out, List.getD_eq_getElem?_getD, List.getElem?_eq_getElem (show i < ks.length by rw [HLN.out]; exact hlt)]
            rfl
          · rw [lzs_map, lzs_map, List.take_succ_eq_append_getElem hlt, List.map_append]
            rfl
        case measure => simp [intOf]; omega
    · obtain rfl : i = kids.length := by omega
      go_wp2_with fail
      go_ret
      rw [List.take_length, List.take_of_length_le (by rw [HLN.out]; exact Nat.le_refl _)] at HL
      exact LzA.of HL.out.below (HL.out.lz.mono (fun g hg => by unfold Rng at hg ⊢; omega))
end Go.Proofs.YtmomjgkbimeeoaaDoor.G
