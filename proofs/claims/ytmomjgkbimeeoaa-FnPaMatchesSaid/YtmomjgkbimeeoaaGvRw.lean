/- Rows and blocks: what an append's new row is; structs' blocks. -/
import Derived.Test.YtmomjgkbimeeoaaGrB
import Derived.Test.YtmomjgkbimeeoaaGvX
import Derived.Deep.AppendLies
import Derived.Laws.ResultCell
import Derived.Laws.Rows
import Derived.Deep.RegionHeld3
import Derived.Carry
namespace Go.Proofs.Ytmomjgkbimeeoaa.G
set_option linter.unusedVariables false
set_option linter.unusedSimpArgs false
open Go.RowKit Go.Proofs.YtmomjgkbimeeoaaW.PrintWords

theorem below_alloc1 {w : World} (o : Obj) : Below w.heap.size w (w.alloc o) := (Below.refl _ _).alloc (Nat.le_refl _) o
def RowAt (w : World) (h o : Nat) (xs : List Int) : Prop := h < w.heap.size ∧ ∀ j, j < xs.length → w.cell? ⟨h, o + j, none⟩ = some (.int .u8 (xs.getD j 0))
theorem RowAt.below {w w' : World} {h o : Nat} {xs : List Int} (H : RowAt w h o xs) (hb : Below w.heap.size w w') : RowAt w' h o xs :=
  ⟨Nat.lt_of_lt_of_le H.1 hb.size, fun j hj => by rw [hb.cell (p := ⟨h, o + j, none⟩) H.1]; exact H.2 j hj⟩
/-- A row whose block is among F. -/
def RowF (w : World) (F : Nat → Prop) (e sz : Nat) (v : Value) (n : Nat) (xs : List Value) : Prop := w.ownsRow 0 e sz v n xs ∧ ∀ g, v.ownBlock = some g → F g
theorem RowF.of {w : World} {F : Nat → Prop} {B e sz : Nat} {v : Value} {n : Nat} {xs : List Value} (h : w.ownsRow B e sz v n xs) (hF : ∀ g, v.ownBlock = some g → F g) : RowF w F e sz v n xs := by
  refine ⟨⟨h.1, ?_⟩, hF⟩
  rcases h.2 with h2 | ⟨g, cap, cur, hv, hg, r⟩
  · exact .inl h2
  · exact .inr ⟨g, cap, cur, hv, Nat.zero_le _, r⟩
theorem RowF.mono {w : World} {F G : Nat → Prop} {e sz : Nat} {v : Value} {n : Nat} {xs : List Value} (h : RowF w F e sz v n xs) (hF : ∀ g, g < w.heap.size → F g → G g) : RowF w G e sz v n xs :=
  ⟨h.1, fun g hg => hF g (h.1.lt g hg).2 (h.2 g hg)⟩
theorem RowF.kept {w w' : World} {F : Nat → Prop} {e sz : Nat} {v : Value} {n : Nat} {xs : List Value} (h : RowF w F e sz v n xs) (hk : ∀ g, g < w.heap.size → F g → w'.heap[g]? = w.heap[g]?) : RowF w' F e sz v n xs := by
  refine ⟨⟨h.1.1, ?_⟩, h.2⟩
  rcases h.1.2 with h2 | ⟨g, cap, cur, hv, hg, hh, r⟩
  · exact .inl h2
  · have hb : v.ownBlock = some g := by rw [hv]; rfl
    exact .inr ⟨g, cap, cur, hv, hg, by rw [hk g (h.1.lt g hb).2 (h.2 g hb)]; exact hh, r⟩
theorem new_cells (w : World) (cs : List Value) (e : TypeId) (j : Nat) (u : Value) (hj : cs[j]? = some u) : (w.alloc (.cells cs.toArray e)).cell? ((⟨w.heap.size, 0, none⟩ : Addr).add j) = some u := by
  have : (w.alloc (.cells cs.toArray e)).heap[w.heap.size]? = some (.cells cs.toArray e) := heap_alloc_new w _
  have e0 : (⟨w.heap.size, 0, none⟩ : Addr).add j = ⟨w.heap.size, j, none⟩ := by unfold Addr.add; split <;> simp_all
  rw [e0]
  unfold World.cell?
  simp only [this]
  simpa using hj
theorem parts_info {e : TypeId} {z : Value} {sz bytes : Nat} (h : (Try.prog.info? e).map (fun i => (i.zero, i.size, i.bytes)) = some (some z, sz, bytes)) : ∃ i, Try.prog.info? e = some i ∧ i.zero = some z ∧ i.size = sz ∧ i.bytes = bytes := by
  cases hi : Try.prog.info? e with
  | none => rw [hi] at h; cases h
  | some i => rw [hi] at h; simp at h; exact ⟨i, rfl, h.1, h.2.1, h.2.2⟩
/-- append(out, x), x one element that was just built, out the call's own: and where the new row lies. -/
theorem app_lies {ops : Array Oper} {rest : List Oper} {o : Oper} {a : Act} {Q : Exit → Act → World → Prop} {W : World} (hgd : o.guard = none) (sl x : Operand) (t e sz bytes : Nat) (z : Value)
    (ho : o.op = .call { callee := .builtin .append, args := #[sl, x], argTypes := #[t, t] })
    (ht : Try.prog.underlying t = some (.slice e)) (hinfo : (Try.prog.info? e).map (fun i => (i.zero, i.size, i.bytes)) = some (some z, sz, bytes)) (hzs : z.cells.size = sz) (hsz : 0 < sz) (hby : bytes ≤ 128)
    {B : Nat} {v : Value} {n cx : Nat} {xs cells : List Value} (HR : Aside0 (W.ownsRow B e sz v n xs)) (hB : Aside0 (B ≤ W.heap.size)) (hcl : cells.length = sz) (hone : ∀ u ∈ cells, u.oneCell' = true) (hn : Aside0 (n ≤ 1099511627000))
    (hs : a.eval sl = v) (H : Nat) (hx : a.eval x = .slice (some ⟨H, 0, none⟩) 1 cx) (hH : H = W.heap.size)
    (hh : ∀ g cap w1, Aside0 (w1.ownsRow B e sz (.slice (some ⟨g, 0, none⟩) (n + 1) cap) (n + 1) (xs ++ cells)) → Aside0 (W.grownBy w1 v.ownBlock) → Aside0 (v.ownBlock = some g ∨ W.heap.size < g) → wpList Try.prog ops Q rest (a.put o.dst (.slice (some ⟨g, 0, none⟩) (n + 1) cap)) w1) :
    wpList Try.prog ops Q (o :: rest) a (W.alloc (.cells cells.toArray e)) := by
  subst hH
  obtain ⟨i0, hi, hz0, hz1, hz2⟩ := parts_info hinfo
  have hn' := hn.out
  have hB' := hB.out
  have hsa : (W.alloc (.cells cells.toArray e)).heap.size = W.heap.size + 1 := by simp [World.size_alloc]
  refine wpList_append_lies _ hgd sl x t ho B e i0 z sz bytes ht hi hz0 hz1 hz2 hzs hsz v n xs hs (HR.out.alloc _) ⟨W.heap.size, 0, none⟩ 1 cx cells hx (by rw [hcl, Nat.one_mul]) (new_cells _ _ _) hone (by omega) (by unfold maxLen; omega) (by have := Nat.mul_le_mul (show n + 1 ≤ 1099511627001 by omega) hby; omega) (by omega) _ rfl ?_
  intro g cap w1 hown hgrow hat hlt
  refine hh g cap w1 ⟨hown⟩ ⟨(World.grownBy_alloc W _ v.ownBlock).andThen hgrow (fun j hj => .inr hj)⟩ ⟨?_⟩
  rcases hat with h | h
  · exact .inl h
  · right; omega
theorem blk_cell {W : World} {h j : Nat} {cs : Array Value} {e : TypeId} {v : Value} (hb : W.heap[h]? = some (.cells cs e)) (hj : cs[j]? = some v) : W.cell? ⟨h, j, none⟩ = some v := by unfold World.cell?; simp [hb, hj]
theorem blk_froz {W : World} {h j : Nat} {cs : Array Value} {e : TypeId} (hb : W.heap[h]? = some (.cells cs e)) : W.frozen? ⟨h, j, none⟩ = false := by unfold World.frozen?; simp [hb]
/-- A store into the result's block. -/
theorem res_put {W : World} {hh : Nat} {cs cs2 : Array Value} {e j : Nat} {v : Value} (h : W.heap[hh]? = some (.cells cs e)) (he : cs.set! j v = cs2) : (W.setCell ⟨hh, j, none⟩ v).heap[hh]? = some (.cells cs2 e) := by
  simp only [World.setCell, Array.getElem?_modify, h, ↓reduceIte, Option.map_some]
  rw [← he]
  rfl
theorem results_tmp4 {fn : Func} {t u v x : Tmp} (h : fn.results = #[.tmp t, .tmp u, .tmp v, .tmp x]) (tmps : Array Value) (P : Program) (w : World) :
    (results fn tmps).run P w = .ok (.tuple #[tmps.getD t undef, tmps.getD u undef, tmps.getD v undef, tmps.getD x undef]) w := by
  simp [results, h]
theorem results_tmp5 {fn : Func} {t u v x y : Tmp} (h : fn.results = #[.tmp t, .tmp u, .tmp v, .tmp x, .tmp y]) (tmps : Array Value) (P : Program) (w : World) :
    (results fn tmps).run P w = .ok (.tuple #[tmps.getD t undef, tmps.getD u undef, tmps.getD v undef, tmps.getD x undef, tmps.getD y undef]) w := by
  simp [results, h]
theorem conv_row (W : World) (s : ByteArray) : RowAt (Lib.bytesWorld W 5 s) W.heap.size 0 (bytesOf s) := by
  obtain ⟨g, cap, e, h1, h2, h3, h4, h5⟩ := Buf.conv W 5 s W.heap.size (Nat.le_refl _)
  injection e with e1 e2 e3
  injection e1 with e1
  injection e1 with e1
  subst e1 e3
  refine ⟨h2, fun j hj => ?_⟩
  rw [Nat.zero_add]
  exact h4 j _ (by simp [List.getD_eq_getElem?_getD, List.getElem?_eq_getElem hj])
theorem conv_below (w : World) (s : ByteArray) : Below w.heap.size w (Lib.bytesWorld w 5 s) := bytes_below (Below.refl _ _) (Nat.le_refl _) 5 s
end Go.Proofs.Ytmomjgkbimeeoaa.G
