/- json-patch: values handed back: what is built of an object. -/
import Derived.Test.YtmomjgkbimeeoaaDoorGvLp
namespace Go.Proofs.YtmomjgkbimeeoaaDoor.G
set_option linter.unusedVariables false
set_option linter.unusedSimpArgs false
open Go.RowKit Go.Proofs.YtmomjgkbimeeoaaDoorW.PrintWords

mutual
/-- How great a lazy node's parts are. -/
def Rl : Lz → Prop
  | .nul => True
  | .raw s => s.length ≤ 140737488355000 ∧ ∀ x ∈ s, 0 ≤ x ∧ x ≤ 255
  | .doc ks vs => (vs.length * 72 ≤ 140737488351232 ∧ ks.length * 16 ≤ 140737488351232 ∧ ∀ x ∈ ks, x.size ≤ 140737488351232) ∧ Rls vs
  | .ary vs => vs.length * 72 ≤ 140737488351232 ∧ Rls vs
def Rls : List Lz → Prop
  | [] => True
  | a :: r => Rl a ∧ Rls r
end
theorem rls_iff : ∀ {l : List Lz}, Rls l ↔ ∀ a ∈ l, Rl a
  | [] => by simp [Rls]
  | a :: r => by simp [Rls, rls_iff (l := r)]
mutual
theorem rl_lz : ∀ {n : Nd}, Ro n → Rl (lz n)
  | .mk k t ks kids, h => by
    unfold Ro at h
    obtain ⟨h1, h2⟩ := h
    unfold Ro1 at h1
    have hl : (lzs kids).length = kids.length := by rw [lzs_map, List.length_map]
    unfold lz
    split
    · unfold Rl; trivial
    · split
      · unfold Rl; decide
      · split
        · unfold Rl; decide
        · split
          · unfold Rl; rw [bytesOf_length]; exact ⟨by omega, bytes_range t⟩
          · split
            · unfold Rl
              rw [List.length_append, List.length_cons, bytesOf_length, List.length_singleton]
              refine ⟨by omega, fun x hx => ?_⟩
              simp only [List.cons_append, List.mem_cons, List.mem_append, List.not_mem_nil, or_false] at hx
              rcases hx with rfl | hx | rfl
              · decide
              · exact bytes_range t x hx
              · decide
            · split
              · unfold Rl; rw [hl]; exact ⟨h1.1, rls_lzs h2⟩
              · unfold Rl; rw [hl]; exact ⟨⟨h1.1, h1.2.1, h1.2.2.2⟩, rls_lzs h2⟩
theorem rls_lzs : ∀ {l : List Nd}, Ros l → Rls (lzs l)
  | [], _ => by unfold lzs Rls; trivial
  | a :: r, h => by
    unfold Ros at h
    unfold lzs Rls
    exact ⟨rl_lz h.1, rls_lzs h.2⟩
end
theorem Lz.szs_mem : ∀ {l : List Lz} {a : Lz}, a ∈ l → a.sz ≤ Lz.szs l
  | b :: r, a, h => by
    unfold Lz.szs
    rcases List.mem_cons.1 h with rfl | h
    · omega
    · have := Lz.szs_mem h; omega
theorem rows_ne {w : World} {B C e f s t n m : Nat} {u v : Value} {xs ys : List Value} (h : w.ownsRow B e s u n xs) (k : w.ownsRow C f t v m ys) (hne : e ≠ f) {g : Nat} (hu : u.ownBlock = some g) : v.ownBlock ≠ some g := by
  intro hv
  rcases h.2 with ⟨e1, _⟩ | ⟨g1, cap1, cur1, e1, _, hg1, _⟩
  · rw [e1] at hu; cases hu
  · rcases k.2 with ⟨e2, _⟩ | ⟨g2, cap2, cur2, e2, _, hg2, _⟩
    · rw [e2] at hv; cases hv
    · rw [e1] at hu
      rw [e2] at hv
      have a1 : g1 = g := by simpa [Value.ownBlock] using hu
      have a2 : g2 = g := by simpa [Value.ownBlock] using hv
      rw [a1] at hg1
      rw [a2, hg1] at hg2
      cases hg2
      exact hne rfl
/-- An object's value being built: both rows are the call's own. -/
structure NO (w wr : World) (L hh : Nat) (ks : List ByteArray) (kA : Option Addr) (k kc : Nat) (nA : Option Addr) (n nc : Nat) (done : List Nd) : Prop where
  len : done.length = n
  lenk : ks.length = k
  blk : wr.heap[hh]? = some (.cells #[.int .i64 6, .string ⟨#[]⟩, .slice kA k kc, .slice nA n nc] 47)
  row : ∃ xs, wr.ownsRow L 47 4 (.slice nA n nc) n xs ∧ NdsAt wr (fun g => L ≤ g ∧ some g ≠ (Value.slice nA n nc).ownBlock ∧ some g ≠ (Value.slice kA k kc).ownBlock) done xs
  keys : wr.ownsRow L 9 1 (.slice kA k kc) k (ks.map Value.string)
  below : Below w.heap.size w wr
  hle : w.heap.size ≤ hh
  hL : hh < L
  hLs : L ≤ wr.heap.size
section
variable {w wr w1 w2 : World} {L hh : Nat} {ks : List ByteArray} {kA : Option Addr} {k kc : Nat} {nA : Option Addr} {n nc : Nat} {done : List Nd}
theorem NO.lt (h : NO w wr L hh ks kA k kc nA n nc done) : hh < wr.heap.size := (Array.getElem?_eq_some_iff.1 h.blk).1
theorem NO.low (h : NO w wr L hh ks kA k kc nA n nc done) (g : Nat) (e : (Value.slice nA n nc).ownBlock = some g) : L ≤ g ∧ g < wr.heap.size := by
  obtain ⟨xs, h1, h2⟩ := h.row
  exact h1.lt g e
theorem NO.lowk (h : NO w wr L hh ks kA k kc nA n nc done) (g : Nat) (e : (Value.slice kA k kc).ownBlock = some g) : L ≤ g ∧ g < wr.heap.size := h.keys.lt g e
theorem NO.two (h : NO w wr L hh ks kA k kc nA n nc done) {g : Nat} (e : (Value.slice nA n nc).ownBlock = some g) : (Value.slice kA k kc).ownBlock ≠ some g := by
  obtain ⟨xs, h1, h2⟩ := h.row
  exact rows_ne h1 h.keys (by decide) e
theorem NO.cells (h : NO w wr L hh ks kA k kc nA n nc done) :
    wr.cell? ⟨hh, 0, none⟩ = some (.int .i64 6) ∧ wr.cell? ⟨hh, 1, none⟩ = some (.string ⟨#[]⟩) ∧ wr.cell? ⟨hh, 2, none⟩ = some (.slice kA k kc) ∧ wr.cell? ⟨hh, 3, none⟩ = some (.slice nA n nc) ∧ ∀ j, wr.frozen? ⟨hh, j, none⟩ = false :=
  ⟨blk_cell h.blk rfl, blk_cell h.blk rfl, blk_cell h.blk rfl, blk_cell h.blk rfl, fun j => blk_froz h.blk⟩
theorem NO.next (h : NO w wr L hh ks kA k kc nA n nc done) (hb : Below wr.heap.size wr w1) : NO w w1 L hh ks kA k kc nA n nc done := by
  obtain ⟨xs, h1, h2⟩ := h.row
  exact ⟨h.len, h.lenk, (hb.block _ h.lt).trans h.blk, ⟨xs, own_kept h1 (fun g hg _ => hb.block g hg), NdsAt.kept hb.size (fun g hg _ => hb.block g hg) h2⟩, own_kept h.keys (fun g hg _ => hb.block g hg), below_step h.below hb, h.hle, h.hL, Nat.le_trans h.hLs hb.size⟩
theorem NO.start {W : World} (hblk : W.heap[hh]? = some (.cells #[.int .i64 6, .string ⟨#[]⟩, .slice none 0 0, .slice none 0 0] 47)) (hb : Below w.heap.size w W) (hle : w.heap.size ≤ hh) (hL : hh < L) (hLs : L ≤ W.heap.size) : NO w W L hh [] none 0 0 none 0 0 [] :=
  ⟨rfl, rfl, hblk, ⟨[], World.ownsRow_nil _ _ _ _, by unfold NdsAt; rfl⟩, World.ownsRow_nil _ _ _ _, hb, hle, hL, hLs⟩
/-- A row (at field f) is appended to: the box stands. -/
theorem NO.box (h : NO w wr L hh ks kA k kc nA n nc done) {v : Value} (hv : ∀ g, v.ownBlock = some g → L ≤ g) (hg : wr.grownBy w2 v.ownBlock) : w2.heap[hh]? = some (.cells #[.int .i64 6, .string ⟨#[]⟩, .slice kA k kc, .slice nA n nc] 47) := by
  rw [hg.block hh h.lt (fun e => by have := hv hh e.symm; have := h.hL; omega)]; exact h.blk
/-- One more name. -/
theorem NO.key {x : ByteArray} {g cap : Nat} (h : NO w wr L hh ks kA k kc nA n nc done) (hown : w2.ownsRow L 9 1 (.slice (some ⟨g, 0, none⟩) (k + 1) cap) (k + 1) (ks.map Value.string ++ [.string x])) (hg : wr.grownBy w2 (Value.slice kA k kc).ownBlock) (hat : (Value.slice kA k kc).ownBlock = some g ∨ wr.heap.size < g) :
    NO w (w2.setCell ⟨hh, 2, none⟩ (.slice (some ⟨g, 0, none⟩) (k + 1) cap)) L hh (ks ++ [x]) (some ⟨g, 0, none⟩) (k + 1) cap nA n nc done := by
  obtain ⟨xs, h1, h2⟩ := h.row
  have hlt := h.lt
  have hL := h.hL
  have hLs := h.hLs
  have hle := h.hle
  have hws := h.below.size
  have hgs := hg.size
  have hlk := h.lowk
  have hln := h.low
  have hgL : L ≤ g := by
    rcases hat with e | e
    · exact (hlk g e).1
    · omega
  have hss : (w2.setCell ⟨hh, 2, none⟩ (.slice (some ⟨g, 0, none⟩) (k + 1) cap)).heap.size = w2.heap.size := by simp [World.setCell]
  have keep : ∀ j, j < wr.heap.size → j ≠ hh → some j ≠ (Value.slice kA k kc).ownBlock → (w2.setCell ⟨hh, 2, none⟩ (.slice (some ⟨g, 0, none⟩) (k + 1) cap)).heap[j]? = wr.heap[j]? := fun j hj a1 a2 => by
    rw [Below.heap_setCell _ _ _ _ a1]; exact hg.block j hj a2
  have hb2 := h.box (fun g e => (hlk g e).1) hg
  refine ⟨h.len, by rw [List.length_append, List.length_singleton, h.lenk], res_put hb2 rfl, ⟨xs, ?_, ?_⟩, ?_, ?_, hle, hL, by rw [hss]; omega⟩
  · exact own_kept h1 (fun j hj e => keep j hj (by have := (hln j e).1; omega) (fun e2 => h.two e e2.symm))
  · have b1 := NdsAt.mono (G := fun j => (L ≤ j ∧ some j ≠ (Value.slice nA n nc).ownBlock ∧ some j ≠ (Value.slice kA k kc).ownBlock) ∧ j < wr.heap.size) (fun j hj hF => ⟨hF, hj⟩) h2
    have b2 := NdsAt.kept (w' := w2.setCell ⟨hh, 2, none⟩ (.slice (some ⟨g, 0, none⟩) (k + 1) cap)) (by rw [hss]; omega) (fun j hj hF => keep j hj (by omega) hF.1.2.2) b1
    refine NdsAt.mono (fun j _ hj => ⟨hj.1.1, hj.1.2.1, fun e => ?_⟩) b2
    have e2 : j = g := by simpa [Value.ownBlock] using e
    rcases hat with e3 | e3
    · exact hj.1.2.2 (by rw [e3, e2])
    · have := hj.2; omega
  · rw [List.map_append]
    refine own_kept hown fun j hj e => Below.heap_setCell _ _ _ _ ?_
    have : j = g := by simpa [Value.ownBlock] using e.symm
    show j ≠ hh
    omega
  · refine Below.setCell (h.below.grown hg hws (fun j e => by have := (hlk j e).1; omega)) hle _
/-- One more kid. -/
theorem NO.more {kid : Nd} {cs xs : List Value} {g cap : Nat} (h : NO w wr L hh ks kA k kc nA n nc done) (hb : Below wr.heap.size wr w1) (hk : NdAt w1 (fun g => wr.heap.size ≤ g) kid cs)
    (hxs : NdsAt wr (fun g => L ≤ g ∧ some g ≠ (Value.slice nA n nc).ownBlock ∧ some g ≠ (Value.slice kA k kc).ownBlock) done xs)
    (hown : w2.ownsRow L 47 4 (.slice (some ⟨g, 0, none⟩) (n + 1) cap) (n + 1) (xs ++ cs)) (hg : w1.grownBy w2 (Value.slice nA n nc).ownBlock) (hat : (Value.slice nA n nc).ownBlock = some g ∨ w1.heap.size < g) :
    NO w (w2.setCell ⟨hh, 3, none⟩ (.slice (some ⟨g, 0, none⟩) (n + 1) cap)) L hh ks kA k kc (some ⟨g, 0, none⟩) (n + 1) cap (done ++ [kid]) := by
  have hsz := hb.size
  have hlt := h.lt
  have hL := h.hL
  have hLs := h.hLs
  have hle := h.hle
  have hws := h.below.size
  have hgs := hg.size
  have hlk := h.lowk
  have hln := h.low
  have hgL : L ≤ g := by
    rcases hat with e | e
    · exact (hln g e).1
    · omega
  have hss : (w2.setCell ⟨hh, 3, none⟩ (.slice (some ⟨g, 0, none⟩) (n + 1) cap)).heap.size = w2.heap.size := by simp [World.setCell]
  have keep1 : ∀ j, j < w1.heap.size → j ≠ hh → some j ≠ (Value.slice nA n nc).ownBlock → (w2.setCell ⟨hh, 3, none⟩ (.slice (some ⟨g, 0, none⟩) (n + 1) cap)).heap[j]? = w1.heap[j]? := fun j hj a1 a2 => by
    rw [Below.heap_setCell _ _ _ _ a1]; exact hg.block j hj a2
  have keep : ∀ j, j < wr.heap.size → j ≠ hh → some j ≠ (Value.slice nA n nc).ownBlock → (w2.setCell ⟨hh, 3, none⟩ (.slice (some ⟨g, 0, none⟩) (n + 1) cap)).heap[j]? = wr.heap[j]? := fun j hj a1 a2 => by
    rw [keep1 j (by omega) a1 a2]; exact hb.block j hj
  have hb2 := (h.next hb).box (fun g e => (hln g e).1) hg
  refine ⟨by rw [List.length_append, List.length_singleton, h.len], h.lenk, res_put hb2 rfl, ⟨xs ++ cs, ?_, ?_⟩, ?_, ?_, hle, hL, by rw [hss]; omega⟩
  · refine own_kept hown fun j hj e => Below.heap_setCell _ _ _ _ ?_
    have : j = g := by simpa [Value.ownBlock] using e.symm
    show j ≠ hh
    omega
  · refine NdsAt.snoc ?_ ?_
    · have b1 := NdsAt.mono (G := fun j => (L ≤ j ∧ some j ≠ (Value.slice nA n nc).ownBlock ∧ some j ≠ (Value.slice kA k kc).ownBlock) ∧ j < wr.heap.size) (fun j hj hF => ⟨hF, hj⟩) hxs
      have b2 := NdsAt.kept (w' := w2.setCell ⟨hh, 3, none⟩ (.slice (some ⟨g, 0, none⟩) (n + 1) cap)) (by rw [hss]; omega) (fun j hj hF => keep j hj (by omega) hF.1.2.1) b1
      refine NdsAt.mono (fun j _ hj => ⟨hj.1.1, fun e => ?_, hj.1.2.2⟩) b2
      have e2 : j = g := by simpa [Value.ownBlock] using e
      rcases hat with e3 | e3
      · exact hj.1.2.1 (by rw [e3, e2])
      · have := hj.2; omega
    · have b1 := NdAt.mono (G := fun j => wr.heap.size ≤ j ∧ j < w1.heap.size) (fun j hj hF => ⟨hF, hj⟩) hk
      have b2 := NdAt.kept (w' := w2.setCell ⟨hh, 3, none⟩ (.slice (some ⟨g, 0, none⟩) (n + 1) cap)) (by rw [hss]; omega) (fun j hj hF => keep1 j hj (by omega) (fun e => by have := (hln j e.symm).2; omega)) b1
      refine NdAt.mono (fun j _ hj => ⟨by omega, fun e => ?_, fun e => by have := (hlk j e.symm).2; omega⟩) b2
      have e2 : j = g := by simpa [Value.ownBlock] using e
      rcases hat with e3 | e3
      · have := (hln g e3).2; omega
      · omega
  · exact own_kept h.keys (fun j hj e => keep j hj (by have := (hlk j e).1; omega) (fun e2 => h.two e2.symm e))
  · refine Below.setCell (h.below.grown (row := (Value.slice nA n nc).ownBlock) ⟨hg.os.trans hb.os, hg.tape.trans hb.tape, hg.output.trans hb.output, by omega, fun j hj hn => by rw [hg.block j (by omega) hn]; exact hb.block j hj⟩ hws (fun j e => by have := (hln j e).1; omega)) hle _
/-- The value that was built, behind stores into blocks below L. -/
theorem NO.fin (h : NO w wr L hh ks kA k kc nA n nc done) (hs : wr.heap.size ≤ w2.heap.size) (hk : ∀ g, g < wr.heap.size → L ≤ g → w2.heap[g]? = wr.heap[g]?) :
    NdAt w2 (fun g => w.heap.size ≤ g) (.mk 6 noStr ks done) [.int .i64 6, .string ⟨#[]⟩, .slice kA k kc, .slice nA n nc] := by
  obtain ⟨xs, h1, h2⟩ := h.row
  have hle := h.hle
  have hL := h.hL
  unfold NdAt
  refine ⟨_, _, xs, rfl, ?_, ?_, ?_⟩
  · rw [h.lenk]
    have r : RowF wr (fun g => L ≤ g) 9 1 (.slice kA k kc) k (ks.map Value.string) := RowF.of h.keys (fun g hg => (h.keys.lt g hg).1)
    exact (Sl.of_row (r.kept (fun g hg hF => hk g hg hF))).mono (fun g _ hg => by omega)
  · rw [h.len]
    have r : RowF wr (fun g => L ≤ g) 47 4 (.slice nA n nc) n xs := RowF.of h1 (fun g hg => (h1.lt g hg).1)
    exact (Sl.of_row (r.kept (fun g hg hF => hk g hg hF))).mono (fun g _ hg => by omega)
  · exact NdsAt.mono (fun g _ hg => by omega) (NdsAt.kept hs (fun g hg hF => hk g hg hF.1) h2)
end
end Go.Proofs.YtmomjgkbimeeoaaDoor.G
