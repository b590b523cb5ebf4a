/- json-patch: an object's set. -/
import Derived.Test.YtmomjgkbimeeoaaGvOu
namespace Go.Proofs.Ytmomjgkbimeeoaa.G
set_option linter.unusedVariables false
set_option linter.unusedSimpArgs false
open Go.RowKit Go.Proofs.YtmomjgkbimeeoaaW.PrintWords

theorem toList_ne {a b : ByteArray} (h : a ≠ b) : (a.toList == b.toList) = false := by
  simp only [beq_eq_false_iff_ne, ne_eq]
  exact fun h2 => h (ByteArray.ext (Array.toList_inj.1 (by rw [ByteArray.toList_eq, ByteArray.toList_eq] at h2; exact h2)))
theorem row_at {w : World} {B e n : Nat} {a : Option Addr} {c : Nat} {xs : List Value} (h : w.ownsRow B e 1 (.slice a n c) n xs) {i : Nat} {u : Value} (hi : xs[i]? = some u) : ∃ g, a = some ⟨g, 0, none⟩ ∧ g < w.heap.size ∧ w.cell? ⟨g, i, none⟩ = some u := by
  have r : RowF w (fun _ => True) e 1 (.slice a n c) n xs := RowF.of h (fun _ _ => trivial)
  obtain ⟨a', cap, e1, h1, h2, h3⟩ := Sl.of_row r
  cases e1
  obtain ⟨g, o, e2, _, h4, h5⟩ := h3 i u hi
  rcases h.2 with ⟨e3, _⟩ | ⟨g', cap', cur, e3, _⟩
  · rw [e2] at e3; cases e3
  · rw [e2] at e3
    cases e3
    exact ⟨g, e2, h4, by rw [Nat.zero_add] at h5; exact h5⟩
/-- append of one element that was just built, for the walk. -/
theorem app_lies2 {ops : Array Oper} {rest : List Oper} {o : Oper} {a : Act} {Q : Exit → Act → World → Prop} {W : World} (hgd : o.guard = none) (sl x : Operand) (t e sz bytes : Nat) (z : Value)
    (ho : o.op = .call { callee := .builtin .append, args := #[sl, x], argTypes := #[t, t] })
    (ht : Try.prog.underlying t = some (.slice e)) (hinfo : (Try.prog.info? e).map (fun i => (i.zero, i.size, i.bytes)) = some (some z, sz, bytes)) (hzs : z.cells.size = sz) (hsz : 0 < sz)
    {B : Nat} {v : Value} {n cx : Nat} {xs cells : List Value} (HR : Aside0 (W.ownsRow B e sz v n xs)) (hB : Aside0 (B ≤ W.heap.size)) (hcl : cells.length = sz) (hone : ∀ u ∈ cells, u.oneCell' = true) (hn : Aside0 ((n + 1) * bytes ≤ 140737488351232 ∧ n + 1 ≤ 140737488351232))
    (hs : a.eval sl = v) (H : Nat) (hx : a.eval x = .slice (some ⟨H, 0, none⟩) 1 cx) (hH : H = W.heap.size)
    (hh : ∀ g cap w1, Aside0 (w1.ownsRow B e sz (.slice (some ⟨g, 0, none⟩) (n + 1) cap) (n + 1) (xs ++ cells)) → Aside0 (W.grownBy w1 v.ownBlock) → Aside0 (v.ownBlock = some g ∨ W.heap.size < g) → wpList Try.prog ops Q rest (a.put o.dst (.slice (some ⟨g, 0, none⟩) (n + 1) cap)) w1) :
    wpList Try.prog ops Q (o :: rest) a (W.alloc (.cells cells.toArray e)) := by
  subst hH
  obtain ⟨i0, hi, hz0, hz1, hz2⟩ := parts_info hinfo
  have hn' := hn.out
  have hB' := hB.out
  have hsa : (W.alloc (.cells cells.toArray e)).heap.size = W.heap.size + 1 := by simp [World.size_alloc]
  refine wpList_append_lies _ hgd sl x t ho B e i0 z sz bytes ht hi hz0 hz1 hz2 hzs hsz v n xs hs (HR.out.alloc _) ⟨W.heap.size, 0, none⟩ 1 cx cells hx (by rw [hcl, Nat.one_mul]) (new_cells _ _ _) hone (by omega) (by unfold maxLen; omega) (by omega) (by omega) _ rfl ?_
  intro g cap w1 hown hgrow hat hlt
  refine hh g cap w1 ⟨hown⟩ ⟨(World.grownBy_alloc W _ v.ownBlock).andThen hgrow (fun j hj => .inr hj)⟩ ⟨?_⟩
  rcases hat with h | h
  · exact .inl h
  · right; omega
end Go.Proofs.Ytmomjgkbimeeoaa.G
