/- json-patch: plain data in memory; lazy nodes in memory. -/
import Derived.Test.YtmomjgkbimeeoaaDoorGvPn
import Derived.Test.YtmomjgkbimeeoaaDoorGvRw
import Derived.Maps.OwnSet
import Derived.Maps.RangeWalk
namespace Go.Proofs.YtmomjgkbimeeoaaDoor.G
set_option linter.unusedVariables false
set_option linter.unusedSimpArgs false
open Go.RowKit Go.Proofs.YtmomjgkbimeeoaaDoorW.PrintWords

/-- A slice that is read: n elements of sz cells each, xs their cells; within F. -/
def Sl (w : World) (F : Nat → Prop) (sz : Nat) (v : Value) (n : Nat) (xs : List Value) : Prop :=
  ∃ a cap, v = .slice a n cap ∧ n ≤ cap ∧ xs.length = n * sz ∧ ∀ i u, xs[i]? = some u → ∃ g o, a = some ⟨g, o, none⟩ ∧ F g ∧ g < w.heap.size ∧ w.cell? ⟨g, o + i, none⟩ = some u
theorem Sl.kept {w w' : World} {F : Nat → Prop} {sz n : Nat} {v : Value} {xs : List Value} (h : Sl w F sz v n xs) (hs : w.heap.size ≤ w'.heap.size) (hk : ∀ g, g < w.heap.size → F g → w'.heap[g]? = w.heap[g]?) : Sl w' F sz v n xs := by
  obtain ⟨a, cap, e, h1, h2, h3⟩ := h
  refine ⟨a, cap, e, h1, h2, fun i u hi => ?_⟩
  obtain ⟨g, o, e1, h4, h5, h6⟩ := h3 i u hi
  exact ⟨g, o, e1, h4, by omega, by rw [World.cell?_of_block (w := w) (w' := w') (hk g h5 h4)]; exact h6⟩
theorem Sl.mono {w : World} {F G : Nat → Prop} {sz n : Nat} {v : Value} {xs : List Value} (h : Sl w F sz v n xs) (hF : ∀ g, g < w.heap.size → F g → G g) : Sl w G sz v n xs := by
  obtain ⟨a, cap, e, h1, h2, h3⟩ := h
  refine ⟨a, cap, e, h1, h2, fun i u hi => ?_⟩
  obtain ⟨g, o, e1, h4, h5, h6⟩ := h3 i u hi
  exact ⟨g, o, e1, hF g h5 h4, h5, h6⟩
theorem Sl.of_row {w : World} {F : Nat → Prop} {e sz n : Nat} {v : Value} {xs : List Value} (h : RowF w F e sz v n xs) : Sl w F sz v n xs := by
  obtain ⟨⟨hl, h⟩, hF⟩ := h
  rcases h with ⟨rfl, rfl⟩ | ⟨g, cap, cur, rfl, _, hg, h1, h2, h3, h4⟩
  · exact ⟨none, 0, rfl, Nat.le_refl _, hl, fun i u hi => by simp at hl; subst hl; simp at hi⟩
  · refine ⟨some ⟨g, 0, none⟩, cap, rfl, h1, hl, fun i u hi => ⟨g, 0, rfl, hF g rfl, (Array.getElem?_eq_some_iff.1 hg).1, ?_⟩⟩
    have hil : i < n * sz := by rw [← hl]; exact (List.getElem?_eq_some_iff.1 hi).1
    have : cur.toList[i]? = some u := by rw [← List.getElem?_take_of_lt hil, h4]; exact hi
    rw [Nat.zero_add]
    unfold World.cell?
    simp only [hg]
    simpa using this
mutual
/-- The cells of a value as plain data. -/
def NdAt (w : World) (F : Nat → Prop) : Nd → List Value → Prop
  | .mk k t ks kids, cs => ∃ kv nv xs, cs = [Value.int .i64 k, Value.string t, kv, nv] ∧ Sl w F 1 kv ks.length (ks.map Value.string) ∧ Sl w F 4 nv kids.length xs ∧ NdsAt w F kids xs
def NdsAt (w : World) (F : Nat → Prop) : List Nd → List Value → Prop
  | [], xs => xs = []
  | p :: ps, xs => ∃ a c, xs = a ++ c ∧ NdAt w F p a ∧ NdsAt w F ps c
end
mutual
theorem NdAt.mono {w : World} {F G : Nat → Prop} (hF : ∀ g, g < w.heap.size → F g → G g) : ∀ {p : Nd} {cs : List Value}, NdAt w F p cs → NdAt w G p cs
  | .mk k t ks kids, cs, h => by
    unfold NdAt at h ⊢
    obtain ⟨kv, nv, xs, h1, h2, h3, h4⟩ := h
    exact ⟨kv, nv, xs, h1, h2.mono hF, h3.mono hF, NdsAt.mono hF h4⟩
theorem NdsAt.mono {w : World} {F G : Nat → Prop} (hF : ∀ g, g < w.heap.size → F g → G g) : ∀ {ps : List Nd} {cs : List Value}, NdsAt w F ps cs → NdsAt w G ps cs
  | [], cs, h => by unfold NdsAt at h ⊢; exact h
  | p :: ps, cs, h => by
    unfold NdsAt at h ⊢
    obtain ⟨a, c, h1, h2, h3⟩ := h
    exact ⟨a, c, h1, NdAt.mono hF h2, NdsAt.mono hF h3⟩
end
mutual
theorem NdAt.kept {w w' : World} {F : Nat → Prop} (hs : w.heap.size ≤ w'.heap.size) (hk : ∀ g, g < w.heap.size → F g → w'.heap[g]? = w.heap[g]?) : ∀ {p : Nd} {cs : List Value}, NdAt w F p cs → NdAt w' F p cs
  | .mk k t ks kids, cs, h => by
    unfold NdAt at h ⊢
    obtain ⟨kv, nv, xs, h1, h2, h3, h4⟩ := h
    exact ⟨kv, nv, xs, h1, h2.kept hs hk, h3.kept hs hk, NdsAt.kept hs hk h4⟩
theorem NdsAt.kept {w w' : World} {F : Nat → Prop} (hs : w.heap.size ≤ w'.heap.size) (hk : ∀ g, g < w.heap.size → F g → w'.heap[g]? = w.heap[g]?) : ∀ {ps : List Nd} {cs : List Value}, NdsAt w F ps cs → NdsAt w' F ps cs
  | [], cs, h => by unfold NdsAt at h ⊢; exact h
  | p :: ps, cs, h => by
    unfold NdsAt at h ⊢
    obtain ⟨a, c, h1, h2, h3⟩ := h
    exact ⟨a, c, h1, NdAt.kept hs hk h2, NdsAt.kept hs hk h3⟩
end
theorem NdAt.below {w w' : World} {F : Nat → Prop} {p : Nd} {cs : List Value} (h : NdAt w F p cs) (hb : Below w.heap.size w w') : NdAt w' F p cs := NdAt.kept hb.size (fun g hg _ => hb.block g hg) h
theorem NdsAt.snoc {w : World} {F : Nat → Prop} : ∀ {ps : List Nd} {cs : List Value} {p : Nd} {c : List Value}, NdsAt w F ps cs → NdAt w F p c → NdsAt w F (ps ++ [p]) (cs ++ c)
  | [], cs, p, c, h, hp => by
    unfold NdsAt at h
    subst h
    rw [List.nil_append, List.nil_append]
    unfold NdsAt
    exact ⟨c, [], by simp, hp, by unfold NdsAt; rfl⟩
  | q :: ps, cs, p, c, h, hp => by
    unfold NdsAt at h
    obtain ⟨a, d, rfl, h2, h3⟩ := h
    rw [List.cons_append, List.append_assoc]
    unfold NdsAt
    exact ⟨a, d ++ c, rfl, h2, h3.snoc hp⟩
theorem NdAt.four {w : World} {F : Nat → Prop} : ∀ {p : Nd} {cs : List Value}, NdAt w F p cs → cs.length = 4
  | .mk k t ks kids, cs, h => by
    unfold NdAt at h
    obtain ⟨kv, nv, xs, rfl, _⟩ := h
    rfl
theorem NdsAt.len {w : World} {F : Nat → Prop} : ∀ {ps : List Nd} {xs : List Value}, NdsAt w F ps xs → xs.length = ps.length * 4
  | [], xs, h => by unfold NdsAt at h; subst h; rfl
  | p :: ps, xs, h => by
    unfold NdsAt at h
    obtain ⟨a, c, rfl, h1, h2⟩ := h
    rw [List.length_append, h1.four, h2.len, List.length_cons]
    omega
/-- The cells of one of them. -/
theorem NdsAt.get {w : World} {F : Nat → Prop} : ∀ {ps : List Nd} {xs : List Value}, NdsAt w F ps xs → ∀ i (hi : i < ps.length), ∃ cs, NdAt w F ps[i] cs ∧ ∀ j, j < 4 → xs[i * 4 + j]? = cs[j]?
  | [], xs, h, i, hi => by simp at hi
  | p :: ps, xs, h, i, hi => by
    unfold NdsAt at h
    obtain ⟨a, c, rfl, h1, h2⟩ := h
    have ha := h1.four
    cases i with
    | zero => exact ⟨a, h1, fun j hj => by rw [Nat.zero_mul, Nat.zero_add, List.getElem?_append_left (by omega)]⟩
    | succ i =>
      obtain ⟨cs, h3, h4⟩ := h2.get i (by simpa using hi)
      refine ⟨cs, h3, fun j hj => ?_⟩
      rw [List.getElem?_append_right (by omega), ha, show (i + 1) * 4 + j - 4 = i * 4 + j by omega]
      exact h4 j hj
theorem NdAt.form {w : World} {F : Nat → Prop} : ∀ {n : Nd} {cs : List Value}, NdAt w F n cs → ∃ k t kA kn kc nA nn nc, cs = [Value.int .i64 k, Value.string t, Value.slice kA kn kc, Value.slice nA nn nc]
  | .mk k t ks kids, cs, h => by
    unfold NdAt at h
    obtain ⟨kv, nv, xs, rfl, h1, h2, h3⟩ := h
    obtain ⟨kA, kc, rfl, _⟩ := h1
    obtain ⟨nA, nc, rfl, _⟩ := h2
    exact ⟨_, _, _, _, _, _, _, _, rfl⟩
/-- A value's cells, spelt out; and its kids'. -/
theorem NdAt.open {w : World} {F : Nat → Prop} {k : Int} {t : ByteArray} {ks : List ByteArray} {kids : List Nd} {cs : List Value} (h : NdAt w F (.mk k t ks kids) cs) :
    ∃ kA kc nA nc, cs = [Value.int .i64 k, Value.string t, Value.slice kA ks.length kc, Value.slice nA kids.length nc] ∧ ks.length ≤ kc ∧ kids.length ≤ nc ∧
      Sl w F 1 (.slice kA ks.length kc) ks.length (ks.map Value.string) ∧
      (∀ i, i < ks.length → ∃ g o, kA = some ⟨g, o, none⟩ ∧ F g ∧ g < w.heap.size ∧ w.cell? ⟨g, o + i, none⟩ = some (.string (ks.getD i noStr))) ∧
      (∀ i (hi : i < kids.length), ∃ g o k' t' kA' kn' kc' nA' nn' nc', nA = some ⟨g, o, none⟩ ∧ F g ∧ g < w.heap.size ∧ NdAt w F kids[i] [.int .i64 k', .string t', .slice kA' kn' kc', .slice nA' nn' nc'] ∧
        w.cell? ⟨g, o + i * 4, none⟩ = some (.int .i64 k') ∧ w.cell? ⟨g, o + i * 4 + 1, none⟩ = some (.string t') ∧ w.cell? ⟨g, o + i * 4 + 2, none⟩ = some (.slice kA' kn' kc') ∧ w.cell? ⟨g, o + i * 4 + 3, none⟩ = some (.slice nA' nn' nc')) := by
  unfold NdAt at h
  obtain ⟨kv, nv, xs, rfl, h1, h2, h3⟩ := h
  have h1k := h1
  obtain ⟨kA, kc, rfl, h4, h5, h6⟩ := h1
  obtain ⟨nA, nc, rfl, h7, h8, h9⟩ := h2
  refine ⟨kA, kc, nA, nc, rfl, h4, h7, h1k, fun i hi => ?_, fun i hi => ?_⟩
  · exact h6 i _ (by simp [List.getElem?_map, List.getElem?_eq_getElem hi, List.getD_eq_getElem?_getD])
  · obtain ⟨cs, hn, hc⟩ := h3.get i hi
    obtain ⟨k', t', kA', kn', kc', nA', nn', nc', rfl⟩ := hn.form
    obtain ⟨g, o, e0, f0, l0, z0⟩ := h9 _ _ (hc 0 (by omega))
    obtain ⟨g1, o1, e1, _, _, z1⟩ := h9 _ _ (hc 1 (by omega))
    obtain ⟨g2, o2, e2, _, _, z2⟩ := h9 _ _ (hc 2 (by omega))
    obtain ⟨g3, o3, e3, _, _, z3⟩ := h9 _ _ (hc 3 (by omega))
    rw [e0] at e1 e2 e3
    cases e1; cases e2; cases e3
    exact ⟨g, o, k', t', kA', kn', kc', nA', nn', nc', e0, f0, l0, hn, z0, by rw [Nat.add_assoc]; exact z1, by rw [Nat.add_assoc]; exact z2, by rw [Nat.add_assoc]; exact z3⟩
/-! ### lazy nodes -/
/-- Blocks from a to b. -/
def Rng (a b : Nat) (g : Nat) : Prop := a ≤ g ∧ g < b
/-- How a map's value reads: as itself. -/
def heldR (v : Value) : Option (DataW Value × List MemPlace) := some (.held v, [])
/-- A key as it reads. -/
def kLit (k : ByteArray) : Lit := .string k.data.toList
theorem kLit_inj {a b : ByteArray} (h : kLit a = kLit b) : a = b := by
  unfold kLit at h
  injection h with h
  exact ByteArray.ext (Array.toList_inj.1 h)
/-- A map in block m of at most n entries: f tells what it holds. -/
def Mp (w : World) (m n : Nat) (f : ByteArray → Option Value) : Prop :=
  ∃ D : DataW Value, w.ownsMap Tryd.prog 9 heldR m n D ∧ ∀ k : ByteArray, k.size ≤ maxLen → Maps.has D (kLit k) = (f k).isSome ∧ ∀ z v, f k = some v → D.atKey (kLit k) z = .held v
theorem law : Maps.Keyed Tryd.prog 9 := Maps.string_keyed Tryd.underlying9
theorem Mp.kept {w w' : World} {m n : Nat} {f : ByteArray → Option Value} (h : Mp w m n f) (hk : w'.heap[m]? = w.heap[m]?) : Mp w' m n f := by
  obtain ⟨D, ⟨es, clock, hb, r⟩, h2⟩ := h
  exact ⟨D, ⟨es, clock, by rw [hk]; exact hb, r⟩, h2⟩
theorem Mp.lt {w : World} {m n : Nat} {f : ByteArray → Option Value} (h : Mp w m n f) : m < w.heap.size := by
  obtain ⟨D, h1, h2⟩ := h
  exact h1.lt
theorem Mp.made (w : World) : Mp (w.alloc (.map #[] 0)) w.heap.size 0 (fun _ => none) :=
  ⟨.map [], World.ownsMap_made _ _ _ _, fun k _ => ⟨rfl, fun z v h => by cases h⟩⟩
/-- What pairs of names and values tell. -/
def fOf (ks : List ByteArray) (us : List Value) (k : ByteArray) : Option Value := (memb ks k).bind (fun j => us[j]?)
def putF (f : ByteArray → Option Value) (x : ByteArray) (v : Value) (k : ByteArray) : Option Value := if k = x then some v else f k
theorem isKeyLit (k : ByteArray) (hk : k.size ≤ maxLen) : WideAt.IsKeyLit (kLit k) := law.key (Go.WideMaps.keyOf_string_mk Tryd.underlying9 hk)
theorem key_of (k : ByteArray) (hk : k.size ≤ maxLen) : keyOf Tryd.prog 9 (.string k) = some (kLit k) := Go.WideMaps.keyOf_string_mk Tryd.underlying9 hk
/-- m[x] = v. -/
theorem Mp.put {w : World} {m n : Nat} {f : ByteArray → Option Value} (h : Mp w m n f) (hn : n < maxLen) (x : ByteArray) (hx : x.size ≤ maxLen) (v : Value) :
    ∃ w', (Instr.mapUpdate 110 (.map (some m)) (.string x) v).run Tryd.prog w = .ok () w' ∧ Mp w' m (n + 1) (putF f x v) ∧ w.grownBy w' (some m) ∧ w'.heap.size = w.heap.size := by
  obtain ⟨D, h1, h2⟩ := h
  obtain ⟨w', hr, ho, ht⟩ := h1.store law Tryd.underlying110 hn (key_of x hx) (d := .held v) (ps := []) rfl
  refine ⟨w', hr, ⟨_, ho, fun k hk => ?_⟩, ht.grown, ?_⟩
  · unfold putF
    by_cases e : k = x
    · subst e
      rw [if_pos rfl]
      refine ⟨Maps.has_put_same h1.isMap (isKeyLit k hk) _, fun z v' hv => ?_⟩
      cases hv
      exact Maps.atKey_put_same h1.isMap (isKeyLit k hk) _ _
    · rw [if_neg e]
      have hne : kLit k ≠ kLit x := fun h => e (kLit_inj h)
      rw [Maps.has_put_other hne]
      exact ⟨(h2 k hk).1, fun z v' hv => by rw [Maps.atKey_put_other hne]; exact (h2 k hk).2 z v' hv⟩
  · obtain ⟨_, _, _, _, _, rfl⟩ := ht
    simp [Go.ChangeMaps.setBlock]
/-- delete(m, x). -/
theorem Mp.del {w : World} {m n : Nat} {f : ByteArray → Option Value} (h : Mp w m n f) (x : ByteArray) (hx : x.size ≤ maxLen) (ty : TypeId) :
    ∃ w', (Builtin.delete_ #[110, 9] ty #[.map (some m), .string x]).run Tryd.prog w = .ok (.tuple #[]) w' ∧ Mp w' m n (fun k => if k = x then none else f k) ∧ w.grownBy w' (some m) ∧ w'.heap.size = w.heap.size := by
  obtain ⟨D, h1, h2⟩ := h
  obtain ⟨w', hr, ho, ht⟩ := h1.drop law Tryd.underlying110 (key_of x hx) ty
  refine ⟨w', hr, ⟨_, ho, fun k hk => ?_⟩, ht.grown, ?_⟩
  · by_cases e : k = x
    · subst e
      simp only [if_true]
      exact ⟨Maps.has_del_same, fun z v hv => by cases hv⟩
    · simp only [if_neg e]
      have hne : kLit k ≠ kLit x := fun h => e (kLit_inj h)
      rw [Maps.has_del_other hne]
      exact ⟨(h2 k hk).1, fun z v' hv => by rw [Maps.atKey_del_other hne]; exact (h2 k hk).2 z v' hv⟩
  · obtain ⟨_, _, _, _, _, rfl⟩ := ht
    simp [Go.ChangeMaps.setBlock]
theorem zeroP (w : World) : (zeroValue 68).run Tryd.prog w = .ok (.pointer none) w := by kernel_rfl
/-- m[x]. -/
theorem Mp.look {w : World} {m n : Nat} {f : ByteArray → Option Value} (h : Mp w m n f) (x : ByteArray) (hx : x.size ≤ maxLen) :
    (Instr.lookup 110 (.map (some m)) (.string x) false).run Tryd.prog w = .ok ((f x).getD (.pointer none)) w := by
  obtain ⟨D, h1, h2⟩ := h
  obtain ⟨v, ps, hr, hv⟩ := h1.lookup law Tryd.underlying110 (zeroP w) (zd := .held (.pointer none)) (zp := []) rfl (key_of x hx)
  rw [hr]
  have hv2 : DataW.held v = D.atKey (kLit x) (.held (.pointer none)) := by
    have := congrArg (fun o => (o.map (·.1)).getD .nil) hv
    simpa [heldR] using this
  cases hf : f x with
  | some u =>
    rw [(h2 x hx).2 _ u hf] at hv2
    cases hv2
    rfl
  | none =>
    have h3 := (h2 x hx).1
    rw [hf] at h3
    rw [Maps.atKey_of_not_has h3] at hv2
    cases hv2
    rfl
/-- v, ok := m[x]. -/
theorem Mp.look_ok {w : World} {m n : Nat} {f : ByteArray → Option Value} (h : Mp w m n f) (x : ByteArray) (hx : x.size ≤ maxLen) :
    (Instr.lookup 110 (.map (some m)) (.string x) true).run Tryd.prog w = .ok (.tuple #[(f x).getD (.pointer none), .bool (f x).isSome]) w := by
  obtain ⟨D, h1, h2⟩ := h
  obtain ⟨v, ps, hr, hv⟩ := h1.look_ok law Tryd.underlying110 (zeroP w) (zd := .held (.pointer none)) (zp := []) rfl (key_of x hx)
  rw [hr, (h2 x hx).1]
  have hv2 : DataW.held v = D.atKey (kLit x) (.held (.pointer none)) := by
    have := congrArg (fun o => (o.map (·.1)).getD .nil) hv
    simpa [heldR] using this
  cases hf : f x with
  | some u =>
    rw [(h2 x hx).2 _ u hf] at hv2
    cases hv2
    rfl
  | none =>
    have h3 := (h2 x hx).1
    rw [hf] at h3
    rw [Maps.atKey_of_not_has h3] at hv2
    cases hv2
    rfl
/-- len(m). -/
theorem Mp.own {w : World} {m n : Nat} {f : ByteArray → Option Value} (h : Mp w m n f) : ∃ D : DataW Value, w.ownsMap Tryd.prog 9 heldR m n D := let ⟨D, h1, _⟩ := h; ⟨D, h1⟩
/-- The bytes that a raw message is. -/
def RawAt (w : World) (F : Nat → Prop) (rb : Nat) (s : List Int) : Prop :=
  ∃ g cap, F rb ∧ F g ∧ w.heap[rb]? = some (.cells #[.slice (some ⟨g, 0, none⟩) s.length cap] 92) ∧ s.length ≤ cap ∧ RowAt w g 0 s
theorem RawAt.kept {w w' : World} {F : Nat → Prop} {rb : Nat} {s : List Int} (h : RawAt w F rb s) (hs : w.heap.size ≤ w'.heap.size) (hk : ∀ g, g < w.heap.size → F g → w'.heap[g]? = w.heap[g]?) : RawAt w' F rb s := by
  obtain ⟨g, cap, h1, h2, h3, h4, h5⟩ := h
  exact ⟨g, cap, h1, h2, by rw [hk rb (Array.getElem?_eq_some_iff.1 h3).1 h1]; exact h3, h4, by have := h5.1; omega, fun j hj => by rw [World.cell?_of_block (w := w) (w' := w') (hk g h5.1 h2)]; exact h5.2 j hj⟩
theorem RawAt.mono {w : World} {F G : Nat → Prop} {rb : Nat} {s : List Int} (h : RawAt w F rb s) (hF : ∀ g, g < w.heap.size → F g → G g) : RawAt w G rb s := by
  obtain ⟨g, cap, h1, h2, h3, h4, h5⟩ := h
  exact ⟨g, cap, hF _ (Array.getElem?_eq_some_iff.1 h3).1 h1, hF _ h5.1 h2, h3, h4, h5⟩
def pV (b : Nat) : Value := .pointer (some ⟨b, 0, none⟩)
mutual
/-- A lazy node; F: all blocks that it is made of. -/
def LzAt (w : World) : (Nat → Prop) → Lz → Value → Prop
  | F, .nul, v => v = .pointer none
  | F, .raw s, v => ∃ b rb, v = .pointer (some ⟨b, 0, none⟩) ∧ F b ∧ w.heap[b]? = some (.cells #[.pointer (some ⟨rb, 0, none⟩), .pointer none, .pointer none, .int .i64 0] 89) ∧ RawAt w F rb s
  | F, .doc ks vs, v => ∃ b rb db kA kn kc m n self opts us F1 F2, v = .pointer (some ⟨b, 0, none⟩) ∧ F b ∧ F db ∧ F m ∧
      w.heap[b]? = some (.cells #[.pointer (some ⟨rb, 0, none⟩), .pointer (some ⟨db, 0, none⟩), .pointer none, .int .i64 1] 89) ∧ RawAt w F1 rb [123, 125] ∧
      w.heap[db]? = some (.cells #[self, .slice kA kn kc, .map (some m), opts] 112) ∧ RowF w F 9 1 (.slice kA kn kc) ks.length (ks.map Value.string) ∧ Mp w m n (fOf ks us) ∧ n ≤ ks.length ∧ LzsAt w F2 vs us ∧
      (∀ g, F1 g → F g ∧ g ≠ b ∧ g ≠ db ∧ g ≠ m ∧ some g ≠ (Value.slice kA kn kc).ownBlock ∧ ¬ F2 g) ∧ (∀ g, F2 g → F g ∧ g ≠ b ∧ g ≠ db ∧ g ≠ m ∧ some g ≠ (Value.slice kA kn kc).ownBlock) ∧
      ks.Nodup ∧ ks.length = vs.length
  | F, .ary vs, v => ∃ b rb ab nA nn nc self us F1 F2, v = .pointer (some ⟨b, 0, none⟩) ∧ F b ∧ F ab ∧
      w.heap[b]? = some (.cells #[.pointer (some ⟨rb, 0, none⟩), .pointer none, .pointer (some ⟨ab, 0, none⟩), .int .i64 2] 89) ∧ RawAt w F1 rb [91, 93] ∧
      w.heap[ab]? = some (.cells #[self, .slice nA nn nc] 115) ∧ RowF w F 68 1 (.slice nA nn nc) vs.length us ∧ LzsAt w F2 vs us ∧
      (∀ g, F1 g → F g ∧ g ≠ b ∧ g ≠ ab ∧ some g ≠ (Value.slice nA nn nc).ownBlock ∧ ¬ F2 g) ∧ (∀ g, F2 g → F g ∧ g ≠ b ∧ g ≠ ab ∧ some g ≠ (Value.slice nA nn nc).ownBlock)
/-- Several, apart from each other. -/
def LzsAt (w : World) : (Nat → Prop) → List Lz → List Value → Prop
  | F, [], us => us = []
  | F, t :: ts, us => ∃ u us' F1 F2, us = u :: us' ∧ LzAt w F1 t u ∧ LzsAt w F2 ts us' ∧ (∀ g, F1 g → F g ∧ ¬ F2 g) ∧ (∀ g, F2 g → F g)
end
mutual
theorem LzAt.mono {w : World} : ∀ {t : Lz} {F G : Nat → Prop} {v : Value}, (∀ g, F g → G g) → LzAt w F t v → LzAt w G t v
  | .nul, F, G, v, hF, h => by unfold LzAt at h ⊢; exact h
  | .raw s, F, G, v, hF, h => by
    unfold LzAt at h ⊢
    obtain ⟨b, rb, h1, h2, h3, h4⟩ := h
    exact ⟨b, rb, h1, hF _ h2, h3, h4.mono fun g _ => hF g⟩
  | .doc ks vs, F, G, v, hF, h => by
    unfold LzAt at h ⊢
    obtain ⟨b, rb, db, kA, kn, kc, m, n, self, opts, us, F1, F2, h1, h2, h3, h4, h5, h6, h7, h8, h9, hn, h10, h11, h12, h13, h14⟩ := h
    exact ⟨b, rb, db, kA, kn, kc, m, n, self, opts, us, F1, F2, h1, hF _ h2, hF _ h3, hF _ h4, h5, h6, h7, h8.mono fun g _ => hF g, h9, hn, h10, fun g hg => ⟨hF _ (h11 g hg).1, (h11 g hg).2⟩, fun g hg => ⟨hF _ (h12 g hg).1, (h12 g hg).2⟩, h13, h14⟩
  | .ary vs, F, G, v, hF, h => by
    unfold LzAt at h ⊢
    obtain ⟨b, rb, ab, nA, nn, nc, self, us, F1, F2, h1, h2, h3, h4, h5, h6, h7, h8, h9, h10⟩ := h
    exact ⟨b, rb, ab, nA, nn, nc, self, us, F1, F2, h1, hF _ h2, hF _ h3, h4, h5, h6, h7.mono fun g _ => hF g, h8, fun g hg => ⟨hF _ (h9 g hg).1, (h9 g hg).2⟩, fun g hg => ⟨hF _ (h10 g hg).1, (h10 g hg).2⟩⟩
end
theorem LzsAt.mono {w : World} : ∀ {ts : List Lz} {F G : Nat → Prop} {us : List Value}, (∀ g, F g → G g) → LzsAt w F ts us → LzsAt w G ts us
  | [], F, G, us, hF, h => by unfold LzsAt at h ⊢; exact h
  | t :: ts, F, G, us, hF, h => by
    unfold LzsAt at h ⊢
    obtain ⟨u, us', F1, F2, h1, h2, h3, h4, h5⟩ := h
    exact ⟨u, us', F1, F2, h1, h2, h3, fun g hg => ⟨hF _ (h4 g hg).1, (h4 g hg).2⟩, fun g hg => hF _ (h5 g hg)⟩
mutual
theorem LzAt.kept {w w' : World} (hs : w.heap.size ≤ w'.heap.size) : ∀ {t : Lz} {F : Nat → Prop} {v : Value}, (∀ g, g < w.heap.size → F g → w'.heap[g]? = w.heap[g]?) → LzAt w F t v → LzAt w' F t v
  | .nul, F, v, hk, h => by unfold LzAt at h ⊢; exact h
  | .raw s, F, v, hk, h => by
    unfold LzAt at h ⊢
    obtain ⟨b, rb, h1, h2, h3, h4⟩ := h
    exact ⟨b, rb, h1, h2, by rw [hk b (Array.getElem?_eq_some_iff.1 h3).1 h2]; exact h3, h4.kept hs hk⟩
  | .doc ks vs, F, v, hk, h => by
    unfold LzAt at h ⊢
    obtain ⟨b, rb, db, kA, kn, kc, m, n, self, opts, us, F1, F2, h1, h2, h3, h4, h5, h6, h7, h8, h9, hn, h10, h11, h12, h13, h14⟩ := h
    exact ⟨b, rb, db, kA, kn, kc, m, n, self, opts, us, F1, F2, h1, h2, h3, h4, by rw [hk b (Array.getElem?_eq_some_iff.1 h5).1 h2]; exact h5, h6.kept hs fun g hg hF => hk g hg (h11 g hF).1, by rw [hk db (Array.getElem?_eq_some_iff.1 h7).1 h3]; exact h7, h8.kept hk, h9.kept (hk m h9.lt h4), hn, LzsAt.kept hs (fun g hg hF => hk g hg (h12 g hF).1) h10, h11, h12, h13, h14⟩
  | .ary vs, F, v, hk, h => by
    unfold LzAt at h ⊢
    obtain ⟨b, rb, ab, nA, nn, nc, self, us, F1, F2, h1, h2, h3, h4, h5, h6, h7, h8, h9, h10⟩ := h
    exact ⟨b, rb, ab, nA, nn, nc, self, us, F1, F2, h1, h2, h3, by rw [hk b (Array.getElem?_eq_some_iff.1 h4).1 h2]; exact h4, h5.kept hs fun g hg hF => hk g hg (h9 g hF).1, by rw [hk ab (Array.getElem?_eq_some_iff.1 h6).1 h3]; exact h6, h7.kept hk, LzsAt.kept hs (fun g hg hF => hk g hg (h10 g hF).1) h8, h9, h10⟩
theorem LzsAt.kept {w w' : World} (hs : w.heap.size ≤ w'.heap.size) : ∀ {ts : List Lz} {F : Nat → Prop} {us : List Value}, (∀ g, g < w.heap.size → F g → w'.heap[g]? = w.heap[g]?) → LzsAt w F ts us → LzsAt w' F ts us
  | [], F, us, hk, h => by unfold LzsAt at h ⊢; exact h
  | t :: ts, F, us, hk, h => by
    unfold LzsAt at h ⊢
    obtain ⟨u, us', F1, F2, h1, h2, h3, h4, h5⟩ := h
    exact ⟨u, us', F1, F2, h1, LzAt.kept hs (fun g hg hF => hk g hg (h4 g hF).1) h2, LzsAt.kept hs (fun g hg hF => hk g hg (h5 g hF)) h3, h4, h5⟩
end
theorem LzAt.below {w w' : World} {t : Lz} {F : Nat → Prop} {v : Value} (h : LzAt w F t v) (hb : Below w.heap.size w w') : LzAt w' F t v := LzAt.kept hb.size (fun g hg _ => hb.block g hg) h
theorem LzsAt.below {w w' : World} {ts : List Lz} {F : Nat → Prop} {us : List Value} (h : LzsAt w F ts us) (hb : Below w.heap.size w w') : LzsAt w' F ts us := LzsAt.kept hb.size (fun g hg _ => hb.block g hg) h
theorem LzsAt.snoc {w : World} : ∀ {ts : List Lz} {F G : Nat → Prop} {us : List Value} {t : Lz} {u : Value}, LzsAt w F ts us → LzAt w G t u → (∀ g, G g → ¬ F g) → LzsAt w (fun g => F g ∨ G g) (ts ++ [t]) (us ++ [u])
  | [], F, G, us, t, u, h, hp, hd => by
    unfold LzsAt at h
    subst h
    rw [List.nil_append, List.nil_append]
    unfold LzsAt
    exact ⟨u, [], G, fun _ => False, rfl, hp, by unfold LzsAt; rfl, fun g hg => ⟨.inr hg, fun h => h⟩, fun g hg => hg.elim⟩
  | q :: ts, F, G, us, t, u, h, hp, hd => by
    unfold LzsAt at h
    obtain ⟨a, us', F1, F2, rfl, h2, h3, h4, h5⟩ := h
    rw [List.cons_append, List.cons_append]
    unfold LzsAt
    refine ⟨a, us' ++ [u], F1, fun g => F2 g ∨ G g, rfl, h2, h3.snoc hp (fun g hg hF => hd g hg (h5 g hF)), fun g hg => ⟨.inl (h4 g hg).1, ?_⟩, fun g hg => hg.imp (h5 g) id⟩
    rintro (h | h)
    · exact (h4 g hg).2 h
    · exact hd g h (h4 g hg).1
theorem LzsAt.len {w : World} : ∀ {ts : List Lz} {F : Nat → Prop} {us : List Value}, LzsAt w F ts us → us.length = ts.length
  | [], F, us, h => by unfold LzsAt at h; subst h; rfl
  | t :: ts, F, us, h => by
    unfold LzsAt at h
    obtain ⟨u, us', F1, F2, rfl, h2, h3, h4, h5⟩ := h
    simp [h3.len]
theorem LzsAt.get {w : World} : ∀ {ts : List Lz} {F : Nat → Prop} {us : List Value}, LzsAt w F ts us → ∀ i (hi : i < ts.length), ∃ u F1, us[i]? = some u ∧ LzAt w F1 ts[i] u ∧ ∀ g, F1 g → F g
  | t :: ts, F, us, h, i, hi => by
    unfold LzsAt at h
    obtain ⟨u, us', F1, F2, rfl, h2, h3, h4, h5⟩ := h
    cases i with
    | zero => exact ⟨u, F1, rfl, h2, fun g hg => (h4 g hg).1⟩
    | succ i =>
      obtain ⟨x, G, h6, h7, h8⟩ := h3.get i (by simpa using hi)
      exact ⟨x, G, by simpa using h6, h7, fun g hg => h5 g (h8 g hg)⟩
/-- What a pointer to a lazy node is. -/
theorem LzAt.ptr {w : World} {t : Lz} {F : Nat → Prop} {v : Value} (h : LzAt w F t v) : ∃ o, v = .pointer o ∧ (o = none ↔ t = .nul) := by
  cases t with
  | nul => unfold LzAt at h; exact ⟨none, h, by simp⟩
  | raw s => unfold LzAt at h; obtain ⟨b, _, e, _⟩ := h; exact ⟨_, e, by simp⟩
  | doc ks vs => unfold LzAt at h; obtain ⟨b, _, _, _, _, _, _, _, _, _, _, _, _, e, _⟩ := h; exact ⟨_, e, by simp⟩
  | ary vs => unfold LzAt at h; obtain ⟨b, _, _, _, _, _, _, _, _, _, e, _⟩ := h; exact ⟨_, e, by simp⟩
end Go.Proofs.YtmomjgkbimeeoaaDoor.G
