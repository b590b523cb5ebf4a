/- json-patch: an object's set. -/
import Derived.Test.YtmomjgkbimeeoaaDoorGvMe
namespace Go.Proofs.YtmomjgkbimeeoaaDoor.G
set_option linter.unusedVariables false
set_option linter.unusedSimpArgs false
open Go.RowKit Go.Proofs.YtmomjgkbimeeoaaDoorW.PrintWords

theorem toList_ne {a b : ByteArray} (h : a ≠ b) : (a.toList == b.toList) = false := by
  simp only [beq_eq_false_iff_ne, ne_eq]
  exact fun h2 => h (ByteArray.ext (Array.toList_inj.1 (by rw [ByteArray.toList_eq, ByteArray.toList_eq] at h2; exact h2)))
theorem row_at {w : World} {B e n : Nat} {a : Option Addr} {c : Nat} {xs : List Value} (h : w.ownsRow B e 1 (.slice a n c) n xs) {i : Nat} {u : Value} (hi : xs[i]? = some u) : ∃ g, a = some ⟨g, 0, none⟩ ∧ g < w.heap.size ∧ w.cell? ⟨g, i, none⟩ = some u := by
  have r : RowF w (fun _ => True) e 1 (.slice a n c) n xs := RowF.of h (fun _ _ => trivial)
  obtain ⟨a', cap, e1, h1, h2, h3⟩ := Sl.of_row r
  cases e1
  obtain ⟨g, o, e2, _, h4, h5⟩ := h3 i u hi
  rcases h.2 with ⟨e3, _⟩ | ⟨g', cap', cur, e3, _⟩
  · rw [e2] at e3; cases e3
  · rw [e2] at e3
    cases e3
    exact ⟨g, e2, h4, by rw [Nat.zero_add] at h5; exact h5⟩
/-- append of one element that was just built, for the walk. -/
theorem app_lies2 {ops : Array Oper} {rest : List Oper} {o : Oper} {a : Act} {Q : Exit → Act → World → Prop} {W : World} (hgd : o.guard = none) (sl x : Operand) (t e sz bytes : Nat) (z : Value)
    (ho : o.op = .call { callee := .builtin .append, args := #[sl, x], argTypes := #[t, t] })
    (ht : Tryd.prog.underlying t = some (.slice e)) (hinfo : (Tryd.prog.info? e).map (fun i => (i.zero, i.size, i.bytes)) = some (some z, sz, bytes)) (hzs : z.cells.size = sz) (hsz : 0 < sz)
    {B : Nat} {v : Value} {n cx : Nat} {xs cells : List Value} (HR : Aside0 (W.ownsRow B e sz v n xs)) (hB : Aside0 (B ≤ W.heap.size)) (hcl : cells.length = sz) (hone : ∀ u ∈ cells, u.oneCell' = true) (hn : Aside0 ((n + 1) * bytes ≤ 140737488351232 ∧ n + 1 ≤ 140737488351232))
    (hs : a.eval sl = v) (H : Nat) (hx : a.eval x = .slice (some ⟨H, 0, none⟩) 1 cx) (hH : H = W.heap.size)
    (hh : ∀ g cap w1, Aside0 (w1.ownsRow B e sz (.slice (some ⟨g, 0, none⟩) (n + 1) cap) (n + 1) (xs ++ cells)) → Aside0 (W.grownBy w1 v.ownBlock) → Aside0 (v.ownBlock = some g ∨ W.heap.size < g) → wpList Tryd.prog ops Q rest (a.put o.dst (.slice (some ⟨g, 0, none⟩) (n + 1) cap)) w1) :
    wpList Tryd.prog ops Q (o :: rest) a (W.alloc (.cells cells.toArray e)) := by
  subst hH
  obtain ⟨i0, hi, hz0, hz1, hz2⟩ := parts_info hinfo
  have hn' := hn.out
  have hB' := hB.out
  have hsa : (W.alloc (.cells cells.toArray e)).heap.size = W.heap.size + 1 := by simp [World.size_alloc]
  refine wpList_append_lies _ hgd sl x t ho B e i0 z sz bytes ht hi hz0 hz1 hz2 hzs hsz v n xs hs (HR.out.alloc _) ⟨W.heap.size, 0, none⟩ 1 cx cells hx (by rw [hcl, Nat.one_mul]) (new_cells _ _ _) hone (by omega) (by unfold maxLen; omega) (by omega) (by omega) _ rfl ?_
  intro g cap w1 hown hgrow hat hlt
  refine hh g cap w1 ⟨hown⟩ ⟨(World.grownBy_alloc W _ v.ownBlock).andThen hgrow (fun j hj => .inr hj)⟩ ⟨?_⟩
  rcases hat with h | h
  · exact .inl h
  · right; omega
/-- m[x] = v, for the walk. -/
theorem wpList_put {ops : Array Oper} {rest : List Oper} {o : Oper} {a : Act} {Q : Exit → Act → World → Prop} {w : World} (hg : o.guard = none) (mo x vo : Operand) (hop : o.op = Op.mapUpdate 110 mo x vo)
    {m n : Nat} {f : ByteArray → Option Value} {k : ByteArray} {v : Value} (hm : a.eval mo = .map (some m)) (hM : Aside0 (Mp w m n f)) (hn : Aside0 (n < maxLen)) (hk : Aside0 (k.size ≤ maxLen)) (hx : a.eval x = .string k) (hv : a.eval vo = v)
    (hK : ∀ w', Aside0 (Mp w' m (n + 1) (putF f k v)) → Aside0 (w.grownBy w' (some m)) → Aside0 (w'.heap.size = w.heap.size) → wpList Tryd.prog ops Q rest (a.put o.dst undef) w') :
    wpList Tryd.prog ops Q (o :: rest) a w := by
  refine wpList_plain hg fun K' hK' => ?_
  obtain ⟨w', hr, h1, h2, h3⟩ := hM.out.put hn.out k hk.out v
  unfold Oper.wp
  simp [execOp, hop, hm, hx, hv, hr, Result.andThen]
  exact hK' _ _ (hK w' ⟨h1⟩ ⟨h2⟩ ⟨h3⟩)
def SetA (db m n kn : Nat) (kA : Option Addr) (kc : Nat) (self opts : Value) (ks : List ByteArray) (f : ByteArray → Option Value) (x : ByteArray) (v : Value) (w : World) (e : Ending) (w' : World) : Prop :=
  e = .returned .nilIface ∧ Aside0 (w'.os = w.os ∧ w'.tape = w.tape ∧ w'.output = w.output ∧ w.heap.size ≤ w'.heap.size ∧ Mp w' m (n + 1) (putF f x v) ∧
    (x ∈ ks → ∀ g, g < w.heap.size → g ≠ m → w'.heap[g]? = w.heap[g]?) ∧
    (x ∉ ks → ∃ g cap, w'.heap[db]? = some (.cells #[self, .slice (some ⟨g, 0, none⟩) (kn + 1) cap, .map (some m), opts] 112) ∧ w'.ownsRow 0 9 1 (.slice (some ⟨g, 0, none⟩) (kn + 1) cap) (kn + 1) (ks.map Value.string ++ [.string x]) ∧
      ((Value.slice kA kn kc).ownBlock = some g ∨ w.heap.size ≤ g) ∧ ∀ j, j < w.heap.size → j ≠ db → j ≠ m → some j ≠ (Value.slice kA kn kc).ownBlock → w'.heap[j]? = w.heap[j]?))
set_option maxHeartbeats 8000000 in
set_option maxRecDepth 100000 in
theorem set_calls (db m n kn : Nat) (kA : Option Addr) (kc : Nat) (self opts : Value) (ks : List ByteArray) (f : ByteArray → Option Value) (x : ByteArray) (v op : Value) (w : World)
    (hblk : w.heap[db]? = some (.cells #[self, .slice kA kn kc, .map (some m), opts] 112)) (hrow : w.ownsRow 0 9 1 (.slice kA kn kc) kn (ks.map Value.string)) (hap : (Value.slice kA kn kc).ownBlock ≠ some db) (hap2 : (Value.slice kA kn kc).ownBlock ≠ some m)
    (hM : Mp w m n f) (hx : x.size ≤ maxLen) (hkn : (kn + 1) * 16 ≤ 140737488351232) (hn : n ≤ kn) :
    Calls Tryd.prog 74 #[.pointer (some ⟨db, 0, none⟩), .string x, v, op] w (SetA db m n kn kA kc self opts ks f x v w) := by
  have hl : ks.length = kn := by
    have := hrow.1
    simpa using this
  obtain ⟨c0, c1, c2, c3, cf⟩ := nd_cells hblk
  have HR := Aside0.mk hrow
  have HM := Aside0.mk hM
  have HX := Aside0.mk hx
  have HL := Aside0.mk hl
  have HBL := Aside0.mk hblk
  have HAP := Aside0.mk (And.intro hap hap2)
  have HN := Aside0.mk (show n < maxLen by unfold maxLen; omega)
  have hdlt : db < w.heap.size := (Array.getElem?_eq_some_iff.1 hblk).1
  have HD := Aside0.mk (And.intro hdlt (show m ≠ db from fun e => by
    obtain ⟨D, ⟨es, clock, hb, _⟩, _⟩ := hM
    rw [e, hblk] at hb
    cases hb))
  clear hdlt
  have hkb : kn ≤ 140737488351232 := by omega
  clear hblk hrow hap hap2 hM hx hl hn
  have hmn := fun (W : World) => run_eql_map_nil (P := Tryd.prog) W 110 9 68 (some m) Tryd.underlying110
  go_enter Tryd.func74, Tryd.ntmps74
  go_wp2_with fail
  go_loop [9, 23] (fun u9 i => u9 = .bool false ∧ ∃ k : Nat, i = .int .i64 k ∧ k ≤ kn ∧ Aside0 (∀ j, j < k → ks.getD j noStr ≠ x)) (fun _ i => kn - (intOf i).toNat)
  case atStart => exact ⟨rfl, 0, rfl, Nat.zero_le _, ⟨fun j hj => by omega⟩⟩
  case round =>
    obtain ⟨rfl, k, rfl, hk, HK⟩ := hrel
    by_cases hlt : k < kn
    · obtain ⟨g, rfl, hg, hc⟩ := row_at HR.out (i := k) (u := .string (ks.getD k noStr)) (by simp [List.getElem?_map, List.getD_eq_getElem?_getD, List.getElem?_eq_getElem (show k < ks.length by rw [HL.out]; exact hlt)])
      obtain ⟨s, hs⟩ : ∃ s, s = ks.getD k noStr := ⟨_, rfl⟩
      rw [← hs] at hc
      have HS := Aside0.mk hs
      clear hs
      by_cases he : s = x
      · subst he
        have HI : Aside0 (s ∈ ks) := ⟨by
          rw [HS.out, List.getD_eq_getElem?_getD, List.getElem?_eq_getElem (show k < ks.length by rw [HL.out]; exact hlt)]
          exact List.getElem_mem _⟩
        go_wp2_with (first
          | (at_mapUpdate; refine wpList_put rfl _ _ _ rfl rfl HM HN HX rfl rfl ?_; intro w2 hM2 hg2 hs2))
        go_ret
        refine ⟨rfl, ⟨hg2.out.os, hg2.out.tape, hg2.out.output, hg2.out.size, hM2.out, fun _ g hg hne => hg2.out.block g hg (by intro e; cases e; exact hne rfl), fun h => absurd HI.out h⟩⟩
      · have hne := toList_ne he
        have HE := Aside0.mk he
        clear he
        go_wp2_with fail
        go_round
        case rel =>
          refine ⟨rfl, k + 1, by go_num, by omega, ⟨fun j hj => ?_⟩⟩
          by_cases e : j = k
          · rw [e, ← HS.out]; exact HE.out
          · exact HK.out j (by omega)
        case measure => simp [intOf]; omega
    · obtain rfl : k = kn := by omega
      have HNI : Aside0 (x ∉ ks) := ⟨fun h => by
        obtain ⟨j, hj, e⟩ := List.getElem_of_mem h
        exact HK.out j (by rw [HL.out] at hj; exact hj) (by rw [List.getD_eq_getElem?_getD, List.getElem?_eq_getElem hj]; exact e)⟩
      have HB0 : Aside0 (0 ≤ w.heap.size) := ⟨Nat.zero_le _⟩
      have HKN : Aside0 ((k + 1) * 16 ≤ 140737488351232 ∧ k + 1 ≤ 140737488351232) := ⟨by omega⟩
      go_wp2_with (first
        | (at_mapUpdate; refine wpList_put rfl _ _ _ rfl rfl HM2 HN HX rfl rfl ?_; intro w2 hM2 hg2 hs2)
        | (at_builtin; refine app_lies2 rfl (.tmp 37) (.tmp 39) 22 9 1 16 _ rfl Tryd.underlying22 strInfo9 rfl (by decide) (cells := [.string x]) HR HB0 rfl (fun u hu => by simp at hu; subst hu; rfl) HKN rfl _ rfl rfl ?_; intro g cap w1 hown hgrow hat; obtain ⟨e0, e1, e2, e3, ef⟩ := nd_cells ((hgrow.out.block db HD.out.1 (fun e => HAP.out.1 e.symm)).trans HBL.out); have HM2 : Aside0 (Mp (w1.setCell ⟨db, 1, none⟩ (.slice (some ⟨g, 0, none⟩) (k + 1) cap)) m n f) := ⟨HM.out.kept (by rw [Below.heap_setCell _ _ _ _ HD.out.2]; exact hgrow.out.block m HM.out.lt (fun e => HAP.out.2 e.symm))⟩))
      go_ret
      have hlow : ∀ j, (Value.slice kA k kc).ownBlock = some j → j < w.heap.size := fun j e => (HR.out.lt j e).2
      have hmlt := HM.out.lt
      obtain ⟨hdlt, hmd⟩ := HD.out
      obtain ⟨ha1, ha2⟩ := HAP.out
      have hgs := hgrow.out.size
      have hgd : g ≠ db ∧ g ≠ m := by
        rcases hat.out with h | h
        · exact ⟨fun e => ha1 (by rw [h, e]), fun e => ha2 (by rw [h, e])⟩
        · exact ⟨by omega, by omega⟩
      have hss : (w1.setCell ⟨db, 1, none⟩ (.slice (some ⟨g, 0, none⟩) (k + 1) cap)).heap.size = w1.heap.size := by simp [World.setCell]
      have hb1 : w1.heap[db]? = some (.cells #[self, .slice kA k kc, .map (some m), opts] 112) := (hgrow.out.block db hdlt (fun e => ha1 e.symm)).trans HBL.out
      have hg2s := hg2.out.size
      refine ⟨rfl, ⟨hg2.out.os.trans hgrow.out.os, hg2.out.tape.trans hgrow.out.tape, hg2.out.output.trans hgrow.out.output, by omega, hM2.out, fun h => absurd h HNI.out, fun _ => ⟨g, cap, ?_, ?_, ?_, ?_⟩⟩⟩
      · rw [hg2.out.block db (by omega) (by intro e; cases e; exact hmd rfl)]
        exact res_put hb1 rfl
      · refine own_kept hown.out (fun j hj e => ?_)
        have e2 : j = g := by simpa [Value.ownBlock] using e.symm
        subst e2
        rw [hg2.out.block j (by omega) (by intro e; cases e; exact hgd.2 rfl)]
        exact Below.heap_setCell _ _ _ _ hgd.1
      · rcases hat.out with h | h
        · exact .inl h
        · exact .inr (by omega)
      · intro j hj h1 h2 h3
        rw [hg2.out.block j (by omega) (by intro e; cases e; exact h2 rfl), Below.heap_setCell _ _ _ _ h1]
        exact hgrow.out.block j hj h3
end Go.Proofs.YtmomjgkbimeeoaaDoor.G
