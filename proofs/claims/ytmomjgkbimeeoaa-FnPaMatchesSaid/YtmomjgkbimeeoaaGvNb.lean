/- json-patch: a value as plain data that is being built: its kids appended one by one. -/
import Derived.Test.YtmomjgkbimeeoaaGvNh
namespace Go.Proofs.Ytmomjgkbimeeoaa.G
set_option linter.unusedVariables false
set_option linter.unusedSimpArgs false
open Go.RowKit Go.Proofs.YtmomjgkbimeeoaaW.PrintWords

theorem ndInfo25 : (Try.prog.info? 25).map (fun i => (i.zero, i.size, i.bytes)) = some (some (.agg #[.int .i64 0, .string ⟨#[]⟩, .slice none 0 0, .slice none 0 0]), 4, 72) := by kernel_rfl
theorem ndInfo47 : (Try.prog.info? 33).map (fun i => (i.zero, i.size, i.bytes)) = some (some (.agg #[.int .i64 0, .string ⟨#[]⟩, .slice none 0 0, .slice none 0 0]), 4, 72) := by kernel_rfl
theorem strInfo9 : (Try.prog.info? 9).map (fun i => (i.zero, i.size, i.bytes)) = some (some (.string ⟨#[]⟩), 1, 16) := by kernel_rfl
/-- append of one element that was just built, as a step of a region that draws. -/
theorem app_step {ops : Array Oper} {o : Oper} {a : Act} {K : Act → World → Prop} {Q : Exit → Act → World → Prop} {E : Prop} {W : World} (hgd : o.guard = none) (sl x : Operand) (t e sz bytes : Nat) (z : Value)
    (ho : o.op = .call { callee := .builtin .append, args := #[sl, x], argTypes := #[t, t] })
    (ht : Try.prog.underlying t = some (.slice e)) (hinfo : (Try.prog.info? e).map (fun i => (i.zero, i.size, i.bytes)) = some (some z, sz, bytes)) (hzs : z.cells.size = sz) (hsz : 0 < sz)
    {B : Nat} {v : Value} {n cx : Nat} {xs cells : List Value} (HR : Aside0 (W.ownsRow B e sz v n xs)) (hB : Aside0 (B ≤ W.heap.size)) (hcl : cells.length = sz) (hone : ∀ u ∈ cells, u.oneCell' = true) (hn : Aside0 ((n + 1) * bytes ≤ 140737488351232 ∧ n + 1 ≤ 140737488351232))
    (hs : a.eval sl = v) (H : Nat) (hx : a.eval x = .slice (some ⟨H, 0, none⟩) 1 cx) (hH : H = W.heap.size)
    (hh : ∀ g cap w1, Aside0 (w1.ownsRow B e sz (.slice (some ⟨g, 0, none⟩) (n + 1) cap) (n + 1) (xs ++ cells)) → Aside0 (W.grownBy w1 v.ownBlock) → Aside0 (v.ownBlock = some g ∨ W.heap.size < g) → K (a.put o.dst (.slice (some ⟨g, 0, none⟩) (n + 1) cap)) w1) :
    if Region.wanted o (yielded ops a.tmps) = true then Oper.wp Try.prog o a (W.alloc (.cells cells.toArray e)) K Q else E := by
  subst hH
  obtain ⟨i0, hi, hz0, hz1, hz2⟩ := parts_info hinfo
  have hn' := hn.out
  have hB' := hB.out
  have hsa : (W.alloc (.cells cells.toArray e)).heap.size = W.heap.size + 1 := by simp [World.size_alloc]
  refine step_append_lies _ hgd sl x t ho B e i0 z sz bytes ht hi hz0 hz1 hz2 hzs hsz v n xs hs (HR.out.alloc _) ⟨W.heap.size, 0, none⟩ 1 cx cells hx (by rw [hcl, Nat.one_mul]) (new_cells _ _ _) hone (by omega) (by unfold maxLen; omega) (by omega) (by omega) _ rfl ?_
  intro g cap w1 hown hgrow hat hlt
  refine hh g cap w1 ⟨hown⟩ ⟨(World.grownBy_alloc W _ v.ownBlock).andThen hgrow (fun j hj => .inr hj)⟩ ⟨?_⟩
  rcases hat with h | h
  · exact .inl h
  · right; omega
theorem own_kept {w w' : World} {B e sz : Nat} {v : Value} {n : Nat} {xs : List Value} (h : w.ownsRow B e sz v n xs) (hk : ∀ g, g < w.heap.size → v.ownBlock = some g → w'.heap[g]? = w.heap[g]?) : w'.ownsRow B e sz v n xs := by
  refine ⟨h.1, ?_⟩
  rcases h.2 with h2 | ⟨g, cap, cur, hv, hg, hh, r⟩
  · exact .inl h2
  · have hb : v.ownBlock = some g := by rw [hv]; rfl
    exact .inr ⟨g, cap, cur, hv, hg, by rw [hk g (h.lt g hb).2 hb]; exact hh, r⟩
/-- A value being built in block hh (type T): its keys are read elsewhere, its kids' row is the call's own. Blocks below B: what came in; from L on: what the loop has made. -/
structure NB (w wr : World) (B L hh T : Nat) (k : Int) (t : ByteArray) (ks : List ByteArray) (kA : Option Addr) (kn kc : Nat) (nA : Option Addr) (n nc : Nat) (done : List Nd) : Prop where
  len : done.length = n
  blk : wr.heap[hh]? = some (.cells #[.int .i64 k, .string t, .slice kA kn kc, .slice nA n nc] T)
  row : ∃ xs, wr.ownsRow L T 4 (.slice nA n nc) n xs ∧ NdsAt wr (fun g => (g < B ∨ L ≤ g) ∧ some g ≠ (Value.slice nA n nc).ownBlock) done xs
  keys : Sl wr (fun g => (g < B ∨ L ≤ g) ∧ some g ≠ (Value.slice nA n nc).ownBlock) 1 (.slice kA kn kc) ks.length (ks.map Value.string)
  below : Below w.heap.size w wr
  hle : w.heap.size ≤ hh
  hL : hh < L
  hB : B ≤ w.heap.size
  hLs : L ≤ wr.heap.size
section
variable {w wr w1 w2 : World} {B L hh T : Nat} {k : Int} {t : ByteArray} {ks : List ByteArray} {kA : Option Addr} {kn kc : Nat} {nA : Option Addr} {n nc : Nat} {done : List Nd}
theorem NB.lt (h : NB w wr B L hh T k t ks kA kn kc nA n nc done) : hh < wr.heap.size := (Array.getElem?_eq_some_iff.1 h.blk).1
theorem NB.low (h : NB w wr B L hh T k t ks kA kn kc nA n nc done) (g : Nat) (e : (Value.slice nA n nc).ownBlock = some g) : L ≤ g ∧ g < wr.heap.size := by
  obtain ⟨xs, h1, h2⟩ := h.row
  exact h1.lt g e
theorem NB.apart (h : NB w wr B L hh T k t ks kA kn kc nA n nc done) {j : Nat} (hj : j < L) : (Value.slice nA n nc).ownBlock ≠ some j := fun e => by have := (h.low j e).1; omega
theorem NB.cells (h : NB w wr B L hh T k t ks kA kn kc nA n nc done) :
    wr.cell? ⟨hh, 0, none⟩ = some (.int .i64 k) ∧ wr.cell? ⟨hh, 1, none⟩ = some (.string t) ∧ wr.cell? ⟨hh, 2, none⟩ = some (.slice kA kn kc) ∧ wr.cell? ⟨hh, 3, none⟩ = some (.slice nA n nc) ∧ ∀ j, wr.frozen? ⟨hh, j, none⟩ = false :=
  ⟨blk_cell h.blk rfl, blk_cell h.blk rfl, blk_cell h.blk rfl, blk_cell h.blk rfl, fun j => blk_froz h.blk⟩
/-- Nothing that was there turns. -/
theorem NB.next (h : NB w wr B L hh T k t ks kA kn kc nA n nc done) (hb : Below wr.heap.size wr w1) : NB w w1 B L hh T k t ks kA kn kc nA n nc done := by
  obtain ⟨xs, h1, h2⟩ := h.row
  exact ⟨h.len, (hb.block _ h.lt).trans h.blk, ⟨xs, own_kept h1 (fun g hg _ => hb.block g hg), NdsAt.kept hb.size (fun g hg _ => hb.block g hg) h2⟩, h.keys.kept hb.size (fun g hg _ => hb.block g hg), below_step h.below hb, h.hle, h.hL, h.hB, Nat.le_trans h.hLs hb.size⟩
theorem NB.start {W : World} (hblk : W.heap[hh]? = some (.cells #[.int .i64 k, .string t, .slice kA kn kc, .slice none 0 0] T))
    (hk : Sl W (fun g => g < B ∨ L ≤ g) 1 (.slice kA kn kc) ks.length (ks.map Value.string)) (hb : Below w.heap.size w W) (hle : w.heap.size ≤ hh) (hL : hh < L) (hB : B ≤ w.heap.size) (hLs : L ≤ W.heap.size) : NB w W B L hh T k t ks kA kn kc none 0 0 [] :=
  ⟨rfl, hblk, ⟨[], World.ownsRow_nil _ _ _ _, by unfold NdsAt; rfl⟩, hk.mono fun g _ hg => ⟨hg, fun e => by cases e⟩, hb, hle, hL, hB, hLs⟩
/-- The box stands while the row is appended to. -/
theorem NB.box (h : NB w wr B L hh T k t ks kA kn kc nA n nc done) (hg : wr.grownBy w2 (Value.slice nA n nc).ownBlock) :
    w2.cell? ⟨hh, 3, none⟩ = some (.slice nA n nc) ∧ ∀ j, w2.frozen? ⟨hh, j, none⟩ = false := by
  have hb : w2.heap[hh]? = some (.cells #[.int .i64 k, .string t, .slice kA kn kc, .slice nA n nc] T) := by
    rw [hg.block hh h.lt (fun e => h.apart h.hL e.symm)]; exact h.blk
  exact ⟨blk_cell hb rfl, fun j => blk_froz hb⟩
/-- One more kid. -/
theorem NB.more {kid : Nd} {cs xs : List Value} {g cap : Nat}
    (h : NB w wr B L hh T k t ks kA kn kc nA n nc done) (hb : Below wr.heap.size wr w1) (hk : NdAt w1 (fun g => g < B ∨ wr.heap.size ≤ g) kid cs)
    (hxs : NdsAt wr (fun g => (g < B ∨ L ≤ g) ∧ some g ≠ (Value.slice nA n nc).ownBlock) done xs)
    (hown : w2.ownsRow L T 4 (.slice (some ⟨g, 0, none⟩) (n + 1) cap) (n + 1) (xs ++ cs)) (hg : w1.grownBy w2 (Value.slice nA n nc).ownBlock) (hat : (Value.slice nA n nc).ownBlock = some g ∨ w1.heap.size < g) :
    NB w (w2.setCell ⟨hh, 3, none⟩ (.slice (some ⟨g, 0, none⟩) (n + 1) cap)) B L hh T k t ks kA kn kc (some ⟨g, 0, none⟩) (n + 1) cap (done ++ [kid]) := by
  have hsz := hb.size
  have hlt := h.lt
  have hlow := h.low
  have hB := h.hB
  have hle := h.hle
  have hL := h.hL
  have hLs := h.hLs
  have hws := h.below.size
  have hgs := hg.size
  have hgL : L ≤ g := by
    rcases hat with e | e
    · exact (hlow g e).1
    · omega
  -- what was there and is neither the row nor the box
  have hkeep : ∀ j, j < w1.heap.size → j ≠ hh → some j ≠ (Value.slice nA n nc).ownBlock → (w2.setCell ⟨hh, 3, none⟩ (.slice (some ⟨g, 0, none⟩) (n + 1) cap)).heap[j]? = w1.heap[j]? := fun j hj h1 h2 => by
    rw [Below.heap_setCell _ _ _ _ h1]
    exact hg.block j hj h2
  have hkeep0 : ∀ j, j < wr.heap.size → j ≠ hh → some j ≠ (Value.slice nA n nc).ownBlock → (w2.setCell ⟨hh, 3, none⟩ (.slice (some ⟨g, 0, none⟩) (n + 1) cap)).heap[j]? = wr.heap[j]? := fun j hj h1 h2 => by
    rw [hkeep j (by omega) h1 h2]; exact hb.block j hj
  have hss : (w2.setCell ⟨hh, 3, none⟩ (.slice (some ⟨g, 0, none⟩) (n + 1) cap)).heap.size = w2.heap.size := by simp [World.setCell]
  have hnew : ∀ j, ((j < B ∨ L ≤ j) ∧ some j ≠ (Value.slice nA n nc).ownBlock) ∧ j < wr.heap.size → (j < B ∨ L ≤ j) ∧ some j ≠ (Value.slice (some ⟨g, 0, none⟩) (n + 1) cap).ownBlock := fun j hj => by
    refine ⟨hj.1.1, fun e => ?_⟩
    have e2 : j = g := by simpa [Value.ownBlock] using e
    rcases hat with e3 | e3
    · exact hj.1.2 (by rw [e3, e2])
    · have := hj.2; omega
  have hblk2 : w2.heap[hh]? = some (.cells #[.int .i64 k, .string t, .slice kA kn kc, .slice nA n nc] T) := by
    rw [hg.block hh (by omega) (fun e => h.apart hL e.symm), hb.block hh hlt]; exact h.blk
  refine ⟨by rw [List.length_append, List.length_singleton, h.len], ?_, ⟨xs ++ cs, ?_, ?_⟩, ?_, ?_, hle, hL, hB, by rw [hss]; omega⟩
  · exact res_put hblk2 rfl
  · refine own_kept hown fun j hj e => Below.heap_setCell _ _ _ _ ?_
    have : j = g := by simpa [Value.ownBlock] using e.symm
    show j ≠ hh
    omega
  · refine NdsAt.snoc ?_ ?_
    · have b1 := NdsAt.mono (G := fun j => ((j < B ∨ L ≤ j) ∧ some j ≠ (Value.slice nA n nc).ownBlock) ∧ j < wr.heap.size) (fun j hj hF => ⟨hF, hj⟩) hxs
      have b2 := NdsAt.kept (w' := w2.setCell ⟨hh, 3, none⟩ (.slice (some ⟨g, 0, none⟩) (n + 1) cap)) (by rw [hss]; omega) (fun j hj hF => hkeep0 j hj (by omega) hF.1.2) b1
      exact NdsAt.mono (fun j _ hj => hnew j hj) b2
    · have b1 := NdAt.mono (G := fun j => (j < B ∨ wr.heap.size ≤ j) ∧ j < w1.heap.size) (fun j hj hF => ⟨hF, hj⟩) hk
      have b2 := NdAt.kept (w' := w2.setCell ⟨hh, 3, none⟩ (.slice (some ⟨g, 0, none⟩) (n + 1) cap)) (by rw [hss]; omega) (fun j hj hF => hkeep j hj (by omega) (fun e => by have := hlow j e.symm; omega)) b1
      refine NdAt.mono (fun j _ hj => ?_) b2
      refine ⟨by omega, fun e => ?_⟩
      have e2 : j = g := by simpa [Value.ownBlock] using e
      rcases hat with e3 | e3
      · have := hlow g e3; omega
      · omega
  · have b1 := h.keys.mono (G := fun j => ((j < B ∨ L ≤ j) ∧ some j ≠ (Value.slice nA n nc).ownBlock) ∧ j < wr.heap.size) (fun j hj hF => ⟨hF, hj⟩)
    have b2 := b1.kept (w' := w2.setCell ⟨hh, 3, none⟩ (.slice (some ⟨g, 0, none⟩) (n + 1) cap)) (by rw [hss]; omega) (fun j hj hF => hkeep0 j hj (by omega) hF.1.2)
    exact b2.mono (fun j _ hj => hnew j hj)
  · refine Below.setCell (h.below.grown (row := (Value.slice nA n nc).ownBlock) ⟨hg.os.trans hb.os, hg.tape.trans hb.tape, hg.output.trans hb.output, by omega, fun j hj hn => by rw [hg.block j (by omega) hn]; exact hb.block j hj⟩ hws (fun j e => by have := (hlow j e).1; omega)) hle _
/-- The value that was built, behind stores into blocks between. -/
theorem NB.fin (h : NB w wr B L hh T k t ks kA kn kc nA n nc done) (hs : wr.heap.size ≤ w2.heap.size) (hk : ∀ g, g < wr.heap.size → (g < B ∨ L ≤ g) → w2.heap[g]? = wr.heap[g]?) (hl : ks.length = kn) :
    NdAt w2 (fun g => g < B ∨ w.heap.size ≤ g) (.mk k t ks done) [.int .i64 k, .string t, .slice kA kn kc, .slice nA n nc] := by
  obtain ⟨xs, h1, h2⟩ := h.row
  have hle := h.hle
  have hL := h.hL
  have hlen := h.len
  unfold NdAt
  refine ⟨_, _, xs, rfl, ?_, ?_, ?_⟩
  · exact (h.keys.kept hs (fun g hg hF => hk g hg hF.1)).mono (fun g _ hg => by omega)
  · rw [hlen]
    have r : RowF wr (fun g => L ≤ g) T 4 (.slice nA n nc) n xs := RowF.of h1 (fun g hg => (h1.lt g hg).1)
    exact (Sl.of_row (r.kept (fun g hg hF => hk g hg (.inr hF)))).mono (fun g _ hg => by omega)
  · exact NdsAt.mono (fun g _ hg => by omega) (NdsAt.kept hs (fun g hg hF => hk g hg hF.1) h2)
/-- The result's block, not written yet. -/
def ZB (wr : World) (h T : Nat) : Prop := wr.heap[h]? = some (.cells #[.int .i64 0, .string ⟨#[]⟩, .slice none 0 0, .slice none 0 0] T)
theorem ZB.lt {h : Nat} (z : ZB wr h T) : h < wr.heap.size := (Array.getElem?_eq_some_iff.1 z).1
theorem ZB.next {h : Nat} (z : ZB wr h T) (hb : Below wr.heap.size wr w1) : ZB w1 h T := (hb.block _ z.lt).trans z
theorem ZB.more {h j : Nat} {v u : Value} (z : ZB wr h T) (hg : wr.grownBy w2 v.ownBlock) (hap : v.ownBlock ≠ some h) (hne : h ≠ hh) : ZB (w2.setCell ⟨hh, j, none⟩ u) h T := by
  unfold ZB
  rw [Below.heap_setCell _ _ _ _ hne, hg.block h z.lt (fun e => hap e.symm)]; exact z
end
end Go.Proofs.Ytmomjgkbimeeoaa.G
