/- The reference's reader: words; a tree of places in memory. -/
import Derived.Test.YtpahejmkidhhhaaDoorGrC
import Derived.Deep.AppendLies
namespace Go.Proofs.YtpahejmkidhhhaaDoor.G
set_option linter.unusedVariables false
set_option linter.unusedSimpArgs false
open Go.RowKit Go.Proofs.YtpahejmkidhhhaaDoorW.PrintWords

theorem ext_list (S : ByteArray) (a b : Nat) : bytesOf (S.extract a b) = (rest S a).take (b - a) := by
  unfold rest bytesOf
  rw [← List.map_drop, ← List.map_take]
  congr 1
  simp [ByteArray.data_extract, Array.toList_extract]
theorem pre_iff {S W : ByteArray} {m : Nat} : pre (bytesOf W) (rest S m) = true ↔ (rest S m).take W.size = bytesOf W := by
  unfold pre
  have : (bytesOf W).length = W.size := by unfold bytesOf; simp
  rw [this]; simp
theorem bytesOf_inj {a b : ByteArray} (h : bytesOf a = bytesOf b) : a = b := by
  unfold bytesOf at h
  have hi : ∀ x y : List UInt8, (x.map fun z => (z.toNat : Int)) = (y.map fun z => (z.toNat : Int)) → x = y := by
    intro x
    induction x with
    | nil => intro y h; cases y with
      | nil => rfl
      | cons _ _ => simp at h
    | cons c x ih => intro y h; cases y with
      | nil => simp at h
      | cons d y =>
        simp at h
        rw [ih y (by simpa using h.2), show c = d from UInt8.toNat_inj.1 (by omega)]
  exact ByteArray.ext (Array.toList_inj.1 (hi _ _ h))
def Took2 (b : Bool) (L : Nat) (w : World) (R : Nat) (S : ByteArray) (m : Nat) (e : Ending) (w' : World) : Prop := e = .returned (.bool b) ∧ Mv w w' R S (if b then m + L else m)
set_option maxHeartbeats 4000000 in
set_option maxRecDepth 100000 in
theorem word_calls (S W : ByteArray) (R m : Nat) (w : World) (h : RS w R S m) (hm : m ≤ S.size) (hs : S.size ≤ 140737488351232) (hW : W.size ≤ 100) : Calls Tryd.prog 55 #[.pointer (some ⟨R, 0, none⟩), .string W] w (Took2 (pre (bytesOf W) (rest S m)) W.size w R S m) := by
  have H := Aside0.mk h
  obtain ⟨h0, hc0, hc1, hfz⟩ := h
  by_cases hle : m + W.size ≤ S.size
  · have g1 : decide ((S.size : Int) - (m : Int) < (W.size : Int)) = false := by simp; omega
    by_cases hw : S.extract m (m + W.size) = W
    · have hp : pre (bytesOf W) (rest S m) = true := by rw [pre_iff]; rw [← hw, ext_list]; simp [hw]
      rw [hp]
      go_enter Tryd.func55, Tryd.ntmps55
      go_upto_region 1 with fail
      go_quiet (fail)
      go_wp2_with fail
      go_ret
      exact ⟨rfl, (H.out.same.drewN _).set (m + W.size) (by simp)⟩
    · have hp : pre (bytesOf W) (rest S m) = false := by
        cases h : pre (bytesOf W) (rest S m) with
        | false => rfl
        | true =>
          rw [pre_iff] at h
          exact absurd (bytesOf_inj (by rw [ext_list, ← h]; simp)) hw
      rw [hp]
      have hne : ((S.extract m (m + W.size)).toList == W.toList) = false := by
        simp only [beq_eq_false_iff_ne, ne_eq]
        exact fun h => hw (ByteArray.ext (Array.toList_inj.1 (by rw [ByteArray.toList_eq, ByteArray.toList_eq] at h; exact h)))
      go_enter Tryd.func55, Tryd.ntmps55
      go_upto_region 1 with fail
      go_quiet (fail)
      go_wp2_with fail
      go_ret
      exact ⟨rfl, H.out.same.drewN _⟩
  · have g1 : decide ((S.size : Int) - (m : Int) < (W.size : Int)) = true := by simp; omega
    have hp : pre (bytesOf W) (rest S m) = false := by
      cases h : pre (bytesOf W) (rest S m) with
      | false => rfl
      | true =>
        have := pre_len h
        rw [rest_len] at this
        have h2 : (bytesOf W).length = W.size := by unfold bytesOf; simp
        omega
    rw [hp]
    go_enter Tryd.func55, Tryd.ntmps55
    go_upto_region 1 with fail
    go_quiet (fail)
    go_wp2_with fail
    go_ret
    exact ⟨rfl, H.out.same.drewN _⟩
/-! ### a tree of places in memory -/
/-- A row whose block is among F. -/
def RowF (w : World) (F : Nat → Prop) (e sz : Nat) (v : Value) (n : Nat) (xs : List Value) : Prop := w.ownsRow 0 e sz v n xs ∧ ∀ g, v.ownBlock = some g → F g
theorem RowF.of {w : World} {F : Nat → Prop} {B e sz : Nat} {v : Value} {n : Nat} {xs : List Value} (h : w.ownsRow B e sz v n xs) (hF : ∀ g, v.ownBlock = some g → F g) : RowF w F e sz v n xs := by
  refine ⟨⟨h.1, ?_⟩, hF⟩
  rcases h.2 with h2 | ⟨g, cap, cur, hv, hg, r⟩
  · exact .inl h2
  · exact .inr ⟨g, cap, cur, hv, Nat.zero_le _, r⟩
theorem RowF.mono {w : World} {F G : Nat → Prop} {e sz : Nat} {v : Value} {n : Nat} {xs : List Value} (h : RowF w F e sz v n xs) (hF : ∀ g, g < w.heap.size → F g → G g) : RowF w G e sz v n xs :=
  ⟨h.1, fun g hg => hF g (h.1.lt g hg).2 (h.2 g hg)⟩
theorem RowF.kept {w w' : World} {F : Nat → Prop} {e sz : Nat} {v : Value} {n : Nat} {xs : List Value} (h : RowF w F e sz v n xs) (hk : ∀ g, g < w.heap.size → F g → w'.heap[g]? = w.heap[g]?) : RowF w' F e sz v n xs := by
  refine ⟨⟨h.1.1, ?_⟩, h.2⟩
  rcases h.1.2 with h2 | ⟨g, cap, cur, hv, hg, hh, r⟩
  · exact .inl h2
  · have hb : v.ownBlock = some g := by rw [hv]; rfl
    exact .inr ⟨g, cap, cur, hv, hg, by rw [hk g (h.1.lt g hb).2 (h.2 g hb)]; exact hh, r⟩
def spans (ns : List (Nat × Nat)) : List Value := (ns.map fun p => [Value.int .i64 p.1, Value.int .i64 p.2]).flatten
theorem spans_snoc (ns : List (Nat × Nat)) (p : Nat × Nat) : spans (ns ++ [p]) = spans ns ++ [Value.int .i64 p.1, Value.int .i64 p.2] := by simp [spans]
mutual
/-- The cells of a place: its kind, its offsets, the rows of its names and of what it holds. -/
def PlAt (w : World) (F : Nat → Prop) : Pl → List Value → Prop
  | .mk k b e ns kids, cs => ∃ nv kv xs, cs = [Value.int .i64 k, Value.int .i64 b, Value.int .i64 e, nv, kv] ∧ RowF w F 64 2 nv ns.length (spans ns) ∧ RowF w F 27 5 kv kids.length xs ∧ PlsAt w F kids xs
def PlsAt (w : World) (F : Nat → Prop) : List Pl → List Value → Prop
  | [], xs => xs = []
  | p :: ps, xs => ∃ a c, xs = a ++ c ∧ PlAt w F p a ∧ PlsAt w F ps c
end
mutual
theorem PlAt.mono {w : World} {F G : Nat → Prop} (hF : ∀ g, g < w.heap.size → F g → G g) : ∀ {p : Pl} {cs : List Value}, PlAt w F p cs → PlAt w G p cs
  | .mk k b e ns kids, cs, h => by
    unfold PlAt at h ⊢
    obtain ⟨nv, kv, xs, h1, h2, h3, h4⟩ := h
    exact ⟨nv, kv, xs, h1, h2.mono hF, h3.mono hF, PlsAt.mono hF h4⟩
theorem PlsAt.mono {w : World} {F G : Nat → Prop} (hF : ∀ g, g < w.heap.size → F g → G g) : ∀ {ps : List Pl} {cs : List Value}, PlsAt w F ps cs → PlsAt w G ps cs
  | [], cs, h => by unfold PlsAt at h ⊢; exact h
  | p :: ps, cs, h => by
    unfold PlsAt at h ⊢
    obtain ⟨a, c, h1, h2, h3⟩ := h
    exact ⟨a, c, h1, PlAt.mono hF h2, PlsAt.mono hF h3⟩
end
mutual
theorem PlAt.kept {w w' : World} {F : Nat → Prop} (hk : ∀ g, g < w.heap.size → F g → w'.heap[g]? = w.heap[g]?) : ∀ {p : Pl} {cs : List Value}, PlAt w F p cs → PlAt w' F p cs
  | .mk k b e ns kids, cs, h => by
    unfold PlAt at h ⊢
    obtain ⟨nv, kv, xs, h1, h2, h3, h4⟩ := h
    exact ⟨nv, kv, xs, h1, h2.kept hk, h3.kept hk, PlsAt.kept hk h4⟩
theorem PlsAt.kept {w w' : World} {F : Nat → Prop} (hk : ∀ g, g < w.heap.size → F g → w'.heap[g]? = w.heap[g]?) : ∀ {ps : List Pl} {cs : List Value}, PlsAt w F ps cs → PlsAt w' F ps cs
  | [], cs, h => by unfold PlsAt at h ⊢; exact h
  | p :: ps, cs, h => by
    unfold PlsAt at h ⊢
    obtain ⟨a, c, h1, h2, h3⟩ := h
    exact ⟨a, c, h1, PlAt.kept hk h2, PlsAt.kept hk h3⟩
end
theorem PlsAt.snoc {w : World} {F : Nat → Prop} : ∀ {ps : List Pl} {cs : List Value} {p : Pl} {c : List Value}, PlsAt w F ps cs → PlAt w F p c → PlsAt w F (ps ++ [p]) (cs ++ c)
  | [], cs, p, c, h, hp => by
    unfold PlsAt at h
    subst h
    rw [List.nil_append, List.nil_append]
    unfold PlsAt
    exact ⟨c, [], by simp, hp, by unfold PlsAt; rfl⟩
  | q :: ps, cs, p, c, h, hp => by
    unfold PlsAt at h
    obtain ⟨a, d, rfl, h2, h3⟩ := h
    rw [List.cons_append, List.append_assoc]
    unfold PlsAt
    exact ⟨a, d ++ c, rfl, h2, h3.snoc hp⟩
theorem Mv.lt {w w1 : World} {R m : Nat} {S : ByteArray} (h : Mv w w1 R S m) : w.heap.size ≤ w1.heap.size := h.g.size
/-- Behind what leaves the reader and all of before as it was. -/
theorem Mv.grown {w w1 w2 : World} {R m : Nat} {S : ByteArray} {row : Option Nat} (h : Mv w w1 R S m) (hg : w1.grownBy w2 row) (hr : ∀ k, row = some k → w.heap.size ≤ k) (hR : R < w.heap.size) : Mv w w2 R S m := by
  have hne : some R ≠ row := fun e => by have := hr R e.symm; omega
  have hb := hg.block R (by have := h.r.lt; exact this) hne
  refine ⟨⟨hg.os.trans h.g.os, hg.tape.trans h.g.tape, hg.output.trans h.g.output, Nat.le_trans h.g.size hg.size, fun k hk hn => ?_⟩, ⟨Nat.lt_of_lt_of_le h.r.lt hg.size, ?_, ?_, ?_⟩⟩
  · rw [hg.block k (by have := h.g.size; omega) (fun e => by have := hr k e.symm; omega)]; exact h.g.block k hk hn
  · rw [World.cell?_of_block (w := w1) (w' := w2) hb]; exact h.r.c0
  · rw [World.cell?_of_block (w := w1) (w' := w2) hb]; exact h.r.c1
  · rw [World.frozen?_of_block (w := w1) (w' := w2) hb]; exact h.r.fz
theorem Mv.alloc {w w1 : World} {R m : Nat} {S : ByteArray} (h : Mv w w1 R S m) (hR : R < w.heap.size) (o : Obj) : Mv w (w1.alloc o) R S m :=
  h.grown (World.grownBy_alloc w1 o none) (fun k hk => by cases hk) hR
theorem info33 : (Tryd.prog.info? 27).map (fun i => (i.zero, i.size, i.bytes)) = some (some (.agg #[.int .i64 0, .int .i64 0, .int .i64 0, .slice none 0 0, .slice none 0 0]), 5, 72) := by kernel_rfl
theorem info104 : (Tryd.prog.info? 64).map (fun i => (i.zero, i.size, i.bytes)) = some (some (.agg #[.int .i64 0, .int .i64 0]), 2, 16) := by kernel_rfl
theorem new_cells (w : World) (cs : List Value) (e : TypeId) (j : Nat) (u : Value) (hj : cs[j]? = some u) : (w.alloc (.cells cs.toArray e)).cell? ((⟨w.heap.size, 0, none⟩ : Addr).add j) = some u := by
  have : (w.alloc (.cells cs.toArray e)).heap[w.heap.size]? = some (.cells cs.toArray e) := heap_alloc_new w _
  have e0 : (⟨w.heap.size, 0, none⟩ : Addr).add j = ⟨w.heap.size, j, none⟩ := by unfold Addr.add; split <;> simp_all
  rw [e0]
  unfold World.cell?
  simp only [this]
  simpa using hj
theorem parts_info {e : TypeId} {z : Value} {sz bytes : Nat} (h : (Tryd.prog.info? e).map (fun i => (i.zero, i.size, i.bytes)) = some (some z, sz, bytes)) : ∃ i, Tryd.prog.info? e = some i ∧ i.zero = some z ∧ i.size = sz ∧ i.bytes = bytes := by
  cases hi : Tryd.prog.info? e with
  | none => rw [hi] at h; cases h
  | some i => rw [hi] at h; simp at h; exact ⟨i, rfl, h.1, h.2.1, h.2.2⟩
/-- append(out, x), x one element that was just built, out the call's own: and where the new row lies. -/
theorem app_lies {ops : Array Oper} {rest : List Oper} {o : Oper} {a : Act} {Q : Exit → Act → World → Prop} {W : World} (hgd : o.guard = none) (sl x : Operand) (t e sz bytes : Nat) (z : Value)
    (ho : o.op = .call { callee := .builtin .append, args := #[sl, x], argTypes := #[t, t] })
    (ht : Tryd.prog.underlying t = some (.slice e)) (hinfo : (Tryd.prog.info? e).map (fun i => (i.zero, i.size, i.bytes)) = some (some z, sz, bytes)) (hzs : z.cells.size = sz) (hsz : 0 < sz) (hby : bytes ≤ 128)
    {B : Nat} {v : Value} {n cx : Nat} {xs cells : List Value} (HR : Aside0 (W.ownsRow B e sz v n xs)) (hB : Aside0 (B ≤ W.heap.size)) (hcl : cells.length = sz) (hone : ∀ u ∈ cells, u.oneCell' = true) (hn : Aside0 (n ≤ 1099511627000))
    (hs : a.eval sl = v) (H : Nat) (hx : a.eval x = .slice (some ⟨H, 0, none⟩) 1 cx) (hH : H = W.heap.size)
    (hh : ∀ g cap w1, Aside0 (w1.ownsRow B e sz (.slice (some ⟨g, 0, none⟩) (n + 1) cap) (n + 1) (xs ++ cells)) → Aside0 (W.grownBy w1 v.ownBlock) → Aside0 (v.ownBlock = some g ∨ W.heap.size < g) → wpList Tryd.prog ops Q rest (a.put o.dst (.slice (some ⟨g, 0, none⟩) (n + 1) cap)) w1) :
    wpList Tryd.prog ops Q (o :: rest) a (W.alloc (.cells cells.toArray e)) := by
  subst hH
  obtain ⟨i0, hi, hz0, hz1, hz2⟩ := parts_info hinfo
  have hn' := hn.out
  have hB' := hB.out
  have hsa : (W.alloc (.cells cells.toArray e)).heap.size = W.heap.size + 1 := by simp [World.size_alloc]
  refine wpList_append_lies _ hgd sl x t ho B e i0 z sz bytes ht hi hz0 hz1 hz2 hzs hsz v n xs hs (HR.out.alloc _) ⟨W.heap.size, 0, none⟩ 1 cx cells hx (by rw [hcl, Nat.one_mul]) (new_cells _ _ _) hone (by omega) (by unfold maxLen; omega) (by have := Nat.mul_le_mul (show n + 1 ≤ 1099511627001 by omega) hby; omega) (by omega) _ rfl ?_
  intro g cap w1 hown hgrow hat hlt
  refine hh g cap w1 ⟨hown⟩ ⟨(World.grownBy_alloc W _ v.ownBlock).andThen hgrow (fun j hj => .inr hj)⟩ ⟨?_⟩
  rcases hat with h | h
  · exact .inl h
  · right; omega
end Go.Proofs.YtpahejmkidhhhaaDoor.G
