/- json-patch: values of interface types in memory (plain's). -/
import Derived.Test.YtmomjgkbimeeoaaGvLp
namespace Go.Proofs.Ytmomjgkbimeeoaa.G
set_option linter.unusedVariables false
set_option linter.unusedSimpArgs false
open Go.RowKit Go.Proofs.YtmomjgkbimeeoaaW.PrintWords

/-- A map in block m that holds L entries: f tells which. -/
def Mi (w : World) (m L : Nat) (f : ByteArray → Option Value) : Prop :=
  ∃ D : DataW Value, w.ownsMap Try.prog 9 heldR m L D ∧ Maps.size D = L ∧ (∀ k : ByteArray, k.size ≤ maxLen → Maps.has D (kLit k) = (f k).isSome ∧ ∀ z v, f k = some v → D.atKey (kLit k) z = .held v)
theorem Mi.kept {w w' : World} {m L : Nat} {f : ByteArray → Option Value} (h : Mi w m L f) (hk : w'.heap[m]? = w.heap[m]?) : Mi w' m L f := by
  obtain ⟨D, ⟨es, clock, hb, r⟩, h2⟩ := h
  exact ⟨D, ⟨es, clock, by rw [hk]; exact hb, r⟩, h2⟩
theorem Mi.lt {w : World} {m L : Nat} {f : ByteArray → Option Value} (h : Mi w m L f) : m < w.heap.size := by
  obtain ⟨D, h1, h2⟩ := h
  exact h1.lt
theorem Mi.made (w : World) : Mi (w.alloc (.map #[] 0)) w.heap.size 0 (fun _ => none) :=
  ⟨.map [], World.ownsMap_made _ _ _ _, rfl, fun k _ => ⟨rfl, fun z v h => by cases h⟩⟩
/-- m[x] = v, x new. -/
theorem Mi.put {w : World} {m L : Nat} {f : ByteArray → Option Value} (h : Mi w m L f) (hn : L < maxLen) (x : ByteArray) (hx : x.size ≤ maxLen) (v : Value) (hf : f x = none) :
    ∃ w', (Instr.mapUpdate 47 (.map (some m)) (.string x) v).run Try.prog w = .ok () w' ∧ Mi w' m (L + 1) (putF f x v) ∧ w.grownBy w' (some m) ∧ w'.heap.size = w.heap.size := by
  obtain ⟨D, h1, hl, h2⟩ := h
  obtain ⟨w', hr, ho, ht⟩ := h1.store law Try.underlying47 hn (key_of x hx) (d := .held v) (ps := []) rfl
  refine ⟨w', hr, ⟨_, ho, ?_, fun k hk => ?_⟩, ht.grown, ?_⟩
  · have := (h2 x hx).1
    rw [hf] at this
    rw [Maps.size_put (h1.tidy law), this, hl]
    rfl
  · unfold putF
    by_cases e : k = x
    · subst e
      rw [if_pos rfl]
      refine ⟨Maps.has_put_same h1.isMap (isKeyLit k hk) _, fun z v' hv => ?_⟩
      cases hv
      exact Maps.atKey_put_same h1.isMap (isKeyLit k hk) _ _
    · rw [if_neg e]
      have hne : kLit k ≠ kLit x := fun h => e (kLit_inj h)
      rw [Maps.has_put_other hne]
      exact ⟨(h2 k hk).1, fun z v' hv => by rw [Maps.atKey_put_other hne]; exact (h2 k hk).2 z v' hv⟩
  · obtain ⟨_, _, _, _, _, rfl⟩ := ht
    simp [Go.ChangeMaps.setBlock]
theorem zeroI (w : World) : (zeroValue 20).run Try.prog w = .ok .nilIface w := by kernel_rfl
/-- v, ok := m[x]. -/
theorem Mi.look_ok {w : World} {m L : Nat} {f : ByteArray → Option Value} (h : Mi w m L f) (x : ByteArray) (hx : x.size ≤ maxLen) :
    (Instr.lookup 47 (.map (some m)) (.string x) true).run Try.prog w = .ok (.tuple #[(f x).getD .nilIface, .bool (f x).isSome]) w := by
  obtain ⟨D, h1, hl, h2⟩ := h
  obtain ⟨v, ps, hr, hv⟩ := h1.look_ok law Try.underlying47 (zeroI w) (zd := .held .nilIface) (zp := []) rfl (key_of x hx)
  rw [hr, (h2 x hx).1]
  have hv2 : DataW.held v = D.atKey (kLit x) (.held .nilIface) := by
    have := congrArg (fun o => (o.map (·.1)).getD .nil) hv
    simpa [heldR] using this
  cases hf : f x with
  | some u =>
    rw [(h2 x hx).2 _ u hf] at hv2
    cases hv2
    rfl
  | none =>
    have h3 := (h2 x hx).1
    rw [hf] at h3
    rw [Maps.atKey_of_not_has h3] at hv2
    cases hv2
    rfl
/-- len(m). -/
theorem Mi.len {w : World} {m L : Nat} {f : ByteArray → Option Value} (h : Mi w m L f) (ty : TypeId) : (Builtin.len_ #[47] ty #[.map (some m)]).run Try.prog w = .ok (.int .i64 (L : Int)) w := by
  obtain ⟨D, h1, hl, h2⟩ := h
  have := h1.len Try.underlying47 ty
  rw [hl] at this
  exact this
theorem own_eq {g j a b : Nat} (h : (Value.slice (some (⟨g, 0, none⟩ : Addr)) a b).ownBlock = some j) : g = j := by simpa [Value.ownBlock] using h
mutual
/-- A value as an interface holds it; F: the blocks that it is made of. -/
def VAt (w : World) (F : Nat → Prop) : Nd → Value → Prop
  | .mk k t ks kids, v => (k = 0 ∧ v = .nilIface) ∨ (k = 1 ∧ v = .iface 4 (.bool false)) ∨ (k = 2 ∧ v = .iface 4 (.bool true)) ∨ (k = 3 ∧ v = .iface 45 (.string t)) ∨ (k = 4 ∧ v = .iface 9 (.string t)) ∨
      (k = 5 ∧ ∃ g cap us, v = .iface 49 (.slice (some ⟨g, 0, none⟩) kids.length cap) ∧ F g ∧ w.ownsRow 0 20 1 (.slice (some ⟨g, 0, none⟩) kids.length cap) kids.length us ∧ VsAt w F kids us) ∨
      (k = 6 ∧ ∃ m us, v = .iface 47 (.map (some m)) ∧ F m ∧ Mi w m ks.length (fOf ks us) ∧ VsAt w F kids us)
def VsAt (w : World) (F : Nat → Prop) : List Nd → List Value → Prop
  | [], us => us = []
  | p :: ps, us => ∃ u us', us = u :: us' ∧ VAt w F p u ∧ VsAt w F ps us'
end
mutual
theorem VAt.kept {w w' : World} {F : Nat → Prop} (hk : ∀ g, g < w.heap.size → F g → w'.heap[g]? = w.heap[g]?) : ∀ {p : Nd} {v : Value}, VAt w F p v → VAt w' F p v
  | .mk k t ks kids, v, h => by
    unfold VAt at h ⊢
    rcases h with h | h | h | h | h | ⟨h0, g, cap, us, h1, hf, h2, h3⟩ | ⟨h0, m, us, h1, hf, h2, h3⟩
    · exact .inl h
    · exact .inr (.inl h)
    · exact .inr (.inr (.inl h))
    · exact .inr (.inr (.inr (.inl h)))
    · exact .inr (.inr (.inr (.inr (.inl h))))
    · exact .inr (.inr (.inr (.inr (.inr (.inl ⟨h0, g, cap, us, h1, hf, own_kept h2 (fun j hj e => hk j hj (own_eq e ▸ hf)), VsAt.kept hk h3⟩)))))
    · exact .inr (.inr (.inr (.inr (.inr (.inr ⟨h0, m, us, h1, hf, h2.kept (hk _ h2.lt hf), VsAt.kept hk h3⟩)))))
theorem VsAt.kept {w w' : World} {F : Nat → Prop} (hk : ∀ g, g < w.heap.size → F g → w'.heap[g]? = w.heap[g]?) : ∀ {ps : List Nd} {us : List Value}, VsAt w F ps us → VsAt w' F ps us
  | [], us, h => by unfold VsAt at h ⊢; exact h
  | p :: ps, us, h => by
    unfold VsAt at h ⊢
    obtain ⟨u, us', h1, h2, h3⟩ := h
    exact ⟨u, us', h1, VAt.kept hk h2, VsAt.kept hk h3⟩
end
mutual
theorem VAt.mono {w : World} {F G : Nat → Prop} (hF : ∀ g, g < w.heap.size → F g → G g) : ∀ {p : Nd} {v : Value}, VAt w F p v → VAt w G p v
  | .mk k t ks kids, v, h => by
    unfold VAt at h ⊢
    rcases h with h | h | h | h | h | ⟨h0, g, cap, us, h1, hf, h2, h3⟩ | ⟨h0, m, us, h1, hf, h2, h3⟩
    · exact .inl h
    · exact .inr (.inl h)
    · exact .inr (.inr (.inl h))
    · exact .inr (.inr (.inr (.inl h)))
    · exact .inr (.inr (.inr (.inr (.inl h))))
    · exact .inr (.inr (.inr (.inr (.inr (.inl ⟨h0, g, cap, us, h1, hF g (h2.lt g rfl).2 hf, h2, VsAt.mono hF h3⟩)))))
    · exact .inr (.inr (.inr (.inr (.inr (.inr ⟨h0, m, us, h1, hF m h2.lt hf, h2, VsAt.mono hF h3⟩)))))
theorem VsAt.mono {w : World} {F G : Nat → Prop} (hF : ∀ g, g < w.heap.size → F g → G g) : ∀ {ps : List Nd} {us : List Value}, VsAt w F ps us → VsAt w G ps us
  | [], us, h => by unfold VsAt at h ⊢; exact h
  | p :: ps, us, h => by
    unfold VsAt at h ⊢
    obtain ⟨u, us', h1, h2, h3⟩ := h
    exact ⟨u, us', h1, VAt.mono hF h2, VsAt.mono hF h3⟩
end
theorem VAt.below {w w' : World} {F : Nat → Prop} {p : Nd} {v : Value} (h : VAt w F p v) (hb : Below w.heap.size w w') : VAt w' F p v := VAt.kept (fun g hg _ => hb.block g hg) h
theorem VsAt.below {w w' : World} {F : Nat → Prop} {p : List Nd} {v : List Value} (h : VsAt w F p v) (hb : Below w.heap.size w w') : VsAt w' F p v := VsAt.kept (fun g hg _ => hb.block g hg) h
theorem VsAt.snoc {w : World} {F : Nat → Prop} : ∀ {ps : List Nd} {us : List Value} {p : Nd} {u : Value}, VsAt w F ps us → VAt w F p u → VsAt w F (ps ++ [p]) (us ++ [u])
  | [], us, p, u, h, hp => by
    unfold VsAt at h
    subst h
    rw [List.nil_append, List.nil_append]
    unfold VsAt
    exact ⟨u, [], rfl, hp, by unfold VsAt; rfl⟩
  | q :: ps, us, p, u, h, hp => by
    unfold VsAt at h
    obtain ⟨a, us', rfl, h2, h3⟩ := h
    rw [List.cons_append, List.cons_append]
    unfold VsAt
    exact ⟨a, us' ++ [u], rfl, h2, h3.snoc hp⟩
theorem VsAt.len {w : World} {F : Nat → Prop} : ∀ {ps : List Nd} {us : List Value}, VsAt w F ps us → us.length = ps.length
  | [], us, h => by unfold VsAt at h; subst h; rfl
  | p :: ps, us, h => by
    unfold VsAt at h
    obtain ⟨u, us', rfl, h2, h3⟩ := h
    simp [h3.len]
theorem VsAt.get {w : World} {F : Nat → Prop} : ∀ {ps : List Nd} {us : List Value}, VsAt w F ps us → ∀ i (hi : i < ps.length), ∃ u, us[i]? = some u ∧ VAt w F ps[i] u
  | p :: ps, us, h, i, hi => by
    unfold VsAt at h
    obtain ⟨u, us', rfl, h2, h3⟩ := h
    cases i with
    | zero => exact ⟨u, rfl, h2⟩
    | succ i =>
      obtain ⟨x, h6, h7⟩ := h3.get i (by simpa using hi)
      exact ⟨x, by simpa using h6, h7⟩
theorem VAt.one {w : World} {F : Nat → Prop} {p : Nd} {v : Value} (h : VAt w F p v) : v.oneCell' = true := by
  cases p with
  | mk k t ks kids =>
    unfold VAt at h
    rcases h with ⟨_, rfl⟩ | ⟨_, rfl⟩ | ⟨_, rfl⟩ | ⟨_, rfl⟩ | ⟨_, rfl⟩ | ⟨_, g, cap, us, rfl, _⟩ | ⟨_, m, us, rfl, _⟩ <;> rfl
theorem below_grow {B : Nat} {w W W' : World} {g0 : Nat} (h : Below B w W) (hB : B ≤ W.heap.size) (hg : W.grownBy W' (some g0)) (h0 : B ≤ g0) : Below B w W' :=
  ⟨hg.os.trans h.os, hg.tape.trans h.tape, hg.output.trans h.output, Nat.le_trans h.size hg.size, fun i hi => (hg.block i (by omega) (fun e => by cases e; omega)).trans (h.block i hi)⟩
/-- What is handed back: a value as an interface holds it. -/
def ValA (n : Nd) (w : World) (e : Ending) (w' : World) : Prop := ∃ v, e = .returned v ∧ Below w.heap.size w w' ∧ (v = .nilIface ∨ ∃ T u, v = .iface T u) ∧ Aside0 (VAt w' (fun g => w.heap.size ≤ g) n v)
theorem VAt.shape {w : World} {F : Nat → Prop} {p : Nd} {v : Value} (h : VAt w F p v) : v = .nilIface ∨ ∃ T u, v = .iface T u := by
  cases p with
  | mk k t ks kids =>
    unfold VAt at h
    rcases h with ⟨_, rfl⟩ | ⟨_, rfl⟩ | ⟨_, rfl⟩ | ⟨_, rfl⟩ | ⟨_, rfl⟩ | ⟨_, g, cap, us, rfl, _⟩ | ⟨_, m, us, rfl, _⟩
    · exact .inl rfl
    all_goals exact .inr ⟨_, _, rfl⟩
end Go.Proofs.Ytmomjgkbimeeoaa.G
