/- json-patch: plain data in memory; lazy nodes in memory. -/
import Derived.Test.YtmomjgkbimeeoaaGvPn
import Derived.Test.YtmomjgkbimeeoaaGvRw
import Derived.Maps.OwnSet
import Derived.Maps.RangeWalk
namespace Go.Proofs.Ytmomjgkbimeeoaa.G
set_option linter.unusedVariables false
set_option linter.unusedSimpArgs false
open Go.RowKit Go.Proofs.YtmomjgkbimeeoaaW.PrintWords

/-- A slice that is read: n elements of sz cells each, xs their cells; within F. -/
def Sl (w : World) (F : Nat → Prop) (sz : Nat) (v : Value) (n : Nat) (xs : List Value) : Prop :=
  ∃ a cap, v = .slice a n cap ∧ n ≤ cap ∧ xs.length = n * sz ∧ ∀ i u, xs[i]? = some u → ∃ g o, a = some ⟨g, o, none⟩ ∧ F g ∧ g < w.heap.size ∧ w.cell? ⟨g, o + i, none⟩ = some u
theorem Sl.kept {w w' : World} {F : Nat → Prop} {sz n : Nat} {v : Value} {xs : List Value} (h : Sl w F sz v n xs) (hs : w.heap.size ≤ w'.heap.size) (hk : ∀ g, g < w.heap.size → F g → w'.heap[g]? = w.heap[g]?) : Sl w' F sz v n xs := by
  obtain ⟨a, cap, e, h1, h2, h3⟩ := h
  refine ⟨a, cap, e, h1, h2, fun i u hi => ?_⟩
  obtain ⟨g, o, e1, h4, h5, h6⟩ := h3 i u hi
  exact ⟨g, o, e1, h4, by omega, by rw [World.cell?_of_block (w := w) (w' := w') (hk g h5 h4)]; exact h6⟩
theorem Sl.mono {w : World} {F G : Nat → Prop} {sz n : Nat} {v : Value} {xs : List Value} (h : Sl w F sz v n xs) (hF : ∀ g, g < w.heap.size → F g → G g) : Sl w G sz v n xs := by
  obtain ⟨a, cap, e, h1, h2, h3⟩ := h
  refine ⟨a, cap, e, h1, h2, fun i u hi => ?_⟩
  obtain ⟨g, o, e1, h4, h5, h6⟩ := h3 i u hi
  exact ⟨g, o, e1, hF g h5 h4, h5, h6⟩
theorem Sl.of_row {w : World} {F : Nat → Prop} {e sz n : Nat} {v : Value} {xs : List Value} (h : RowF w F e sz v n xs) : Sl w F sz v n xs := by
  obtain ⟨⟨hl, h⟩, hF⟩ := h
  rcases h with ⟨rfl, rfl⟩ | ⟨g, cap, cur, rfl, _, hg, h1, h2, h3, h4⟩
  · exact ⟨none, 0, rfl, Nat.le_refl _, hl, fun i u hi => by simp at hl; subst hl; simp at hi⟩
  · refine ⟨some ⟨g, 0, none⟩, cap, rfl, h1, hl, fun i u hi => ⟨g, 0, rfl, hF g rfl, (Array.getElem?_eq_some_iff.1 hg).1, ?_⟩⟩
    have hil : i < n * sz := by rw [← hl]; exact (List.getElem?_eq_some_iff.1 hi).1
    have : cur.toList[i]? = some u := by rw [← List.getElem?_take_of_lt hil, h4]; exact hi
    rw [Nat.zero_add]
    unfold World.cell?
    simp only [hg]
    simpa using this
mutual
/-- The cells of a value as plain data. -/
def NdAt (w : World) (F : Nat → Prop) : Nd → List Value → Prop
  | .mk k t ks kids, cs => ∃ kv nv xs, cs = [Value.int .i64 k, Value.string t, kv, nv] ∧ Sl w F 1 kv ks.length (ks.map Value.string) ∧ Sl w F 4 nv kids.length xs ∧ NdsAt w F kids xs
def NdsAt (w : World) (F : Nat → Prop) : List Nd → List Value → Prop
  | [], xs => xs = []
  | p :: ps, xs => ∃ a c, xs = a ++ c ∧ NdAt w F p a ∧ NdsAt w F ps c
end
mutual
theorem NdAt.mono {w : World} {F G : Nat → Prop} (hF : ∀ g, g < w.heap.size → F g → G g) : ∀ {p : Nd} {cs : List Value}, NdAt w F p cs → NdAt w G p cs
  | .mk k t ks kids, cs, h => by
    unfold NdAt at h ⊢
    obtain ⟨kv, nv, xs, h1, h2, h3, h4⟩ := h
    exact ⟨kv, nv, xs, h1, h2.mono hF, h3.mono hF, NdsAt.mono hF h4⟩
theorem NdsAt.mono {w : World} {F G : Nat → Prop} (hF : ∀ g, g < w.heap.size → F g → G g) : ∀ {ps : List Nd} {cs : List Value}, NdsAt w F ps cs → NdsAt w G ps cs
  | [], cs, h => by unfold NdsAt at h ⊢; exact h
  | p :: ps, cs, h => by
    unfold NdsAt at h ⊢
    obtain ⟨a, c, h1, h2, h3⟩ := h
    exact ⟨a, c, h1, NdAt.mono hF h2, NdsAt.mono hF h3⟩
end
mutual
theorem NdAt.kept {w w' : World} {F : Nat → Prop} (hs : w.heap.size ≤ w'.heap.size) (hk : ∀ g, g < w.heap.size → F g → w'.heap[g]? = w.heap[g]?) : ∀ {p : Nd} {cs : List Value}, NdAt w F p cs → NdAt w' F p cs
  | .mk k t ks kids, cs, h => by
    unfold NdAt at h ⊢
    obtain ⟨kv, nv, xs, h1, h2, h3, h4⟩ := h
    exact ⟨kv, nv, xs, h1, h2.kept hs hk, h3.kept hs hk, NdsAt.kept hs hk h4⟩
theorem NdsAt.kept {w w' : World} {F : Nat → Prop} (hs : w.heap.size ≤ w'.heap.size) (hk : ∀ g, g < w.heap.size → F g → w'.heap[g]? = w.heap[g]?) : ∀ {ps : List Nd} {cs : List Value}, NdsAt w F ps cs → NdsAt w' F ps cs
  | [], cs, h => by unfold NdsAt at h ⊢; exact h
  | p :: ps, cs, h => by
    unfold NdsAt at h ⊢
    obtain ⟨a, c, h1, h2, h3⟩ := h
    exact ⟨a, c, h1, NdAt.kept hs hk h2, NdsAt.kept hs hk h3⟩
end
theorem NdAt.below {w w' : World} {F : Nat → Prop} {p : Nd} {cs : List Value} (h : NdAt w F p cs) (hb : Below w.heap.size w w') : NdAt w' F p cs := NdAt.kept hb.size (fun g hg _ => hb.block g hg) h
theorem NdsAt.snoc {w : World} {F : Nat → Prop} : ∀ {ps : List Nd} {cs : List Value} {p : Nd} {c : List Value}, NdsAt w F ps cs → NdAt w F p c → NdsAt w F (ps ++ [p]) (cs ++ c)
  | [], cs, p, c, h, hp => by
    unfold NdsAt at h
    subst h
    rw [List.nil_append, List.nil_append]
    unfold NdsAt
    exact ⟨c, [], by simp, hp, by unfold NdsAt; rfl⟩
  | q :: ps, cs, p, c, h, hp => by
    unfold NdsAt at h
    obtain ⟨a, d, rfl, h2, h3⟩ := h
    rw [List.cons_append, List.append_assoc]
    unfold NdsAt
    exact ⟨a, d ++ c, rfl, h2, h3.snoc hp⟩
theorem NdAt.four {w : World} {F : Nat → Prop} : ∀ {p : Nd} {cs : List Value}, NdAt w F p cs → cs.length = 4
  | .mk k t ks kids, cs, h => by
    unfold NdAt at h
    obtain ⟨kv, nv, xs, rfl, _⟩ := h
    rfl
theorem NdsAt.len {w : World} {F : Nat → Prop} : ∀ {ps : List Nd} {xs : List Value}, NdsAt w F ps xs → xs.length = ps.length * 4
  | [], xs, h => by unfold NdsAt at h; subst h; rfl
  | p :: ps, xs, h => by
    unfold NdsAt at h
    obtain ⟨a, c, rfl, h1, h2⟩ := h
    rw [List.length_append, h1.four, h2.len, List.length_cons]
    omega
/-- The cells of one of them. -/
theorem NdsAt.get {w : World} {F : Nat → Prop} : ∀ {ps : List Nd} {xs : List Value}, NdsAt w F ps xs → ∀ i (hi : i < ps.length), ∃ cs, NdAt w F ps[i] cs ∧ ∀ j, j < 4 → xs[i * 4 + j]? = cs[j]?
  | [], xs, h, i, hi => by simp at hi
  | p :: ps, xs, h, i, hi => by
    unfold NdsAt at h
    obtain ⟨a, c, rfl, h1, h2⟩ := h
    have ha := h1.four
    cases i with
    | zero => exact ⟨a, h1, fun j hj => by rw [Nat.zero_mul, Nat.zero_add, List.getElem?_append_left (by omega)]⟩
    | succ i =>
      obtain ⟨cs, h3, h4⟩ := h2.get i (by simpa using hi)
      refine ⟨cs, h3, fun j hj => ?_⟩
      rw [List.getElem?_append_right (by omega), ha, show (i + 1) * 4 + j - 4 = i * 4 + j by omega]
      exact h4 j hj
theorem NdAt.form {w : World} {F : Nat → Prop} : ∀ {n : Nd} {cs : List Value}, NdAt w F n cs → ∃ k t kA kn kc nA nn nc, cs = [Value.int .i64 k, Value.string t, Value.slice kA kn kc, Value.slice nA nn nc]
  | .mk k t ks kids, cs, h => by
    unfold NdAt at h
    obtain ⟨kv, nv, xs, rfl, h1, h2, h3⟩ := h
    obtain ⟨kA, kc, rfl, _⟩ := h1
    obtain ⟨nA, nc, rfl, _⟩ := h2
    exact ⟨_, _, _, _, _, _, _, _, rfl⟩
/-- A value's cells, spelt out; and its kids'. -/
theorem NdAt.open {w : World} {F : Nat → Prop} {k : Int} {t : ByteArray} {ks : List ByteArray} {kids : List Nd} {cs : List Value} (h : NdAt w F (.mk k t ks kids) cs) :
    ∃ kA kc nA nc, cs = [Value.int .i64 k, Value.string t, Value.slice kA ks.length kc, Value.slice nA kids.length nc] ∧ ks.length ≤ kc ∧ kids.length ≤ nc ∧
      Sl w F 1 (.slice kA ks.length kc) ks.length (ks.map Value.string) ∧
      (∀ i, i < ks.length → ∃ g o, kA = some ⟨g, o, none⟩ ∧ F g ∧ g < w.heap.size ∧ w.cell? ⟨g, o + i, none⟩ = some (.string (ks.getD i noStr))) ∧
      (∀ i (hi : i < kids.length), ∃ g o k' t' kA' kn' kc' nA' nn' nc', nA = some ⟨g, o, none⟩ ∧ F g ∧ g < w.heap.size ∧ NdAt w F kids[i] [.int .i64 k', .string t', .slice kA' kn' kc', .slice nA' nn' nc'] ∧
        w.cell? ⟨g, o + i * 4, none⟩ = some (.int .i64 k') ∧ w.cell? ⟨g, o + i * 4 + 1, none⟩ = some (.string t') ∧ w.cell? ⟨g, o + i * 4 + 2, none⟩ = some (.slice kA' kn' kc') ∧ w.cell? ⟨g, o + i * 4 + 3, none⟩ = some (.slice nA' nn' nc')) := by
  unfold NdAt at h
  obtain ⟨kv, nv, xs, rfl, h1, h2, h3⟩ := h
  have h1k := h1
  obtain ⟨kA, kc, rfl, h4, h5, h6⟩ := h1
  obtain ⟨nA, nc, rfl, h7, h8, h9⟩ := h2
  refine ⟨kA, kc, nA, nc, rfl, h4, h7, h1k, fun i hi => ?_, fun i hi => ?_⟩
  · exact h6 i _ (by simp [List.getElem?_map, List.getElem?_eq_getElem hi, List.getD_eq_getElem?_getD])
  · obtain ⟨cs, hn, hc⟩ := h3.get i hi
    obtain ⟨k', t', kA', kn', kc', nA', nn', nc', rfl⟩ := hn.form
    obtain ⟨g, o, e0, f0, l0, z0⟩ := h9 _ _ (hc 0 (by omega))
    obtain ⟨g1, o1, e1, _, _, z1⟩ := h9 _ _ (hc 1 (by omega))
    obtain ⟨g2, o2, e2, _, _, z2⟩ := h9 _ _ (hc 2 (by omega))
    obtain ⟨g3, o3, e3, _, _, z3⟩ := h9 _ _ (hc 3 (by omega))
    rw [e0] at e1 e2 e3
    cases e1; cases e2; cases e3
    exact ⟨g, o, k', t', kA', kn', kc', nA', nn', nc', e0, f0, l0, hn, z0, by rw [Nat.add_assoc]; exact z1, by rw [Nat.add_assoc]; exact z2, by rw [Nat.add_assoc]; exact z3⟩
/-! ### lazy nodes -/
/-- Blocks from a to b. -/
def Rng (a b : Nat) (g : Nat) : Prop := a ≤ g ∧ g < b
/-- How a map's value reads: as itself. -/
def heldR (v : Value) : Option (DataW Value × List MemPlace) := some (.held v, [])
/-- A key as it reads. -/
def kLit (k : ByteArray) : Lit := .string k.data.toList
theorem kLit_inj {a b : ByteArray} (h : kLit a = kLit b) : a = b := by
  unfold kLit at h
  injection h with h
  exact ByteArray.ext (Array.toList_inj.1 h)
theorem law : Maps.Keyed Try.prog 9 := Maps.string_keyed Try.underlying9
/-- What pairs of names and values tell. -/
def fOf (ks : List ByteArray) (us : List Value) (k : ByteArray) : Option Value := (memb ks k).bind (fun j => us[j]?)
theorem isKeyLit (k : ByteArray) (hk : k.size ≤ maxLen) : WideAt.IsKeyLit (kLit k) := law.key (Go.WideMaps.keyOf_string_mk Try.underlying9 hk)
theorem key_of (k : ByteArray) (hk : k.size ≤ maxLen) : keyOf Try.prog 9 (.string k) = some (kLit k) := Go.WideMaps.keyOf_string_mk Try.underlying9 hk
end Go.Proofs.Ytmomjgkbimeeoaa.G
