/- json-patch: lazy nodes opened; an array's and an object's next element. -/
import Derived.Test.YtmomjgkbimeeoaaDoorGvSt
namespace Go.Proofs.YtmomjgkbimeeoaaDoor.G
set_option linter.unusedVariables false
set_option linter.unusedSimpArgs false
open Go.RowKit Go.Proofs.YtmomjgkbimeeoaaDoorW.PrintWords

theorem rowF_len {w : World} {F : Nat → Prop} {e sz n : Nat} {a : Option Addr} {k c : Nat} {xs : List Value} (h : RowF w F e sz (.slice a k c) n xs) : k = n := by
  rcases h.1.2 with ⟨e1, e2⟩ | ⟨g, cap, cur, e1, _⟩
  · cases e1; exact e2.symm
  · cases e1; rfl
/-- An array's node. -/
structure AyO (w : World) (F : Nat → Prop) (vs : List Lz) (b rb ab : Nat) (nA : Option Addr) (n nc : Nat) (sf : Value) (us : List Value) (F1 F2 : Nat → Prop) : Prop where
  len : vs.length = n
  fb : F b
  fab : F ab
  blk : w.heap[b]? = some (.cells #[.pointer (some ⟨rb, 0, none⟩), .pointer none, .pointer (some ⟨ab, 0, none⟩), .int .i64 2] 89)
  raw : RawAt w F1 rb [91, 93]
  ary : w.heap[ab]? = some (.cells #[sf, .slice nA n nc] 115)
  row : RowF w F 68 1 (.slice nA n nc) n us
  kids : LzsAt w F2 vs us
  f1 : ∀ g, F1 g → F g ∧ g ≠ b ∧ g ≠ ab ∧ some g ≠ (Value.slice nA n nc).ownBlock ∧ ¬ F2 g
  f2 : ∀ g, F2 g → F g ∧ g ≠ b ∧ g ≠ ab ∧ some g ≠ (Value.slice nA n nc).ownBlock
theorem LzAt.ary_open {w : World} {F : Nat → Prop} {vs : List Lz} {v : Value} {n : Nat} (h : LzAt w F (.ary vs) v) (hn : vs.length = n) : ∃ b rb ab nA nc sf us F1 F2, v = .pointer (some ⟨b, 0, none⟩) ∧ AyO w F vs b rb ab nA n nc sf us F1 F2 := by
  unfold LzAt at h
  obtain ⟨b, rb, ab, nA, nn, nc, sf, us, F1, F2, h1, h2, h3, h4, h5, h6, h7, h8, h9, h10⟩ := h
  have := rowF_len h7
  subst this
  subst hn
  exact ⟨b, rb, ab, nA, nc, sf, us, F1, F2, h1, rfl, h2, h3, h4, h5, h6, h7, h8, h9, h10⟩
theorem AyO.shut {w : World} {F : Nat → Prop} {vs : List Lz} {b rb ab : Nat} {nA : Option Addr} {n nc : Nat} {sf : Value} {us : List Value} {F1 F2 : Nat → Prop} (h : AyO w F vs b rb ab nA n nc sf us F1 F2) : LzAt w F (.ary vs) (.pointer (some ⟨b, 0, none⟩)) := by
  unfold LzAt
  have := h.len
  subst this
  exact ⟨b, rb, ab, nA, _, nc, sf, us, F1, F2, rfl, h.fb, h.fab, h.blk, h.raw, h.ary, h.row, h.kids, h.f1, h.f2⟩
/-- An object's node. -/
structure DcO (w : World) (F : Nat → Prop) (ks : List ByteArray) (vs : List Lz) (b rb db : Nat) (kA : Option Addr) (k kc m n : Nat) (sf opts : Value) (us : List Value) (F1 F2 : Nat → Prop) : Prop where
  len : ks.length = k
  lenv : vs.length = k
  fb : F b
  fdb : F db
  fm : F m
  blk : w.heap[b]? = some (.cells #[.pointer (some ⟨rb, 0, none⟩), .pointer (some ⟨db, 0, none⟩), .pointer none, .int .i64 1] 89)
  raw : RawAt w F1 rb [123, 125]
  doc : w.heap[db]? = some (.cells #[sf, .slice kA k kc, .map (some m), opts] 112)
  row : RowF w F 9 1 (.slice kA k kc) k (ks.map Value.string)
  map : Mp w m n (fOf ks us)
  hn : n ≤ k
  kids : LzsAt w F2 vs us
  f1 : ∀ g, F1 g → F g ∧ g ≠ b ∧ g ≠ db ∧ g ≠ m ∧ some g ≠ (Value.slice kA k kc).ownBlock ∧ ¬ F2 g
  f2 : ∀ g, F2 g → F g ∧ g ≠ b ∧ g ≠ db ∧ g ≠ m ∧ some g ≠ (Value.slice kA k kc).ownBlock
  nodup : ks.Nodup
theorem LzAt.doc_open {w : World} {F : Nat → Prop} {ks : List ByteArray} {vs : List Lz} {v : Value} {k : Nat} (h : LzAt w F (.doc ks vs) v) (hk : vs.length = k) : ∃ b rb db kA kc m n sf opts us F1 F2, v = .pointer (some ⟨b, 0, none⟩) ∧ DcO w F ks vs b rb db kA k kc m n sf opts us F1 F2 := by
  unfold LzAt at h
  obtain ⟨b, rb, db, kA, kn, kc, m, n, sf, opts, us, F1, F2, h1, h2, h3, h4, h5, h6, h7, h8, h9, hn, h10, h11, h12, h13, h14⟩ := h
  have := rowF_len h8
  subst this
  have e : ks.length = k := by omega
  subst hk
  rw [e] at h7 h8 h11 h12 hn
  exact ⟨b, rb, db, kA, kc, m, n, sf, opts, us, F1, F2, h1, e, rfl, h2, h3, h4, h5, h6, h7, h8, h9, hn, h10, h11, h12, h13⟩
theorem DcO.shut {w : World} {F : Nat → Prop} {ks : List ByteArray} {vs : List Lz} {b rb db : Nat} {kA : Option Addr} {k kc m n : Nat} {sf opts : Value} {us : List Value} {F1 F2 : Nat → Prop} (h : DcO w F ks vs b rb db kA k kc m n sf opts us F1 F2) : LzAt w F (.doc ks vs) (.pointer (some ⟨b, 0, none⟩)) := by
  unfold LzAt
  have e1 := h.len
  have e2 := h.lenv
  subst e1
  exact ⟨b, rb, db, kA, _, kc, m, n, sf, opts, us, F1, F2, rfl, h.fb, h.fdb, h.fm, h.blk, h.raw, h.doc, h.row, h.map, h.hn, h.kids, h.f1, h.f2, h.nodup, e2.symm⟩
theorem blk_ne {w : World} {a b T U : Nat} {xs ys : Array Value} (h : w.heap[a]? = some (.cells xs T)) (k : w.heap[b]? = some (.cells ys U)) (hne : T ≠ U) : a ≠ b := by
  intro e
  subst e
  rw [h] at k
  cases k
  exact hne rfl
theorem Mp.ne {w : World} {m n db T : Nat} {f : ByteArray → Option Value} {xs : Array Value} (h : Mp w m n f) (k : w.heap[db]? = some (.cells xs T)) : m ≠ db := by
  intro e
  obtain ⟨D, ⟨es, clock, hb, _⟩, _⟩ := h
  rw [e, k] at hb
  cases hb
theorem RowF.ne {w : World} {F : Nat → Prop} {e sz n h T : Nat} {v : Value} {xs : List Value} {ys : Array Value} (r : RowF w F e sz v n xs) (k : w.heap[h]? = some (.cells ys T)) (hne : e ≠ T) : v.ownBlock ≠ some h := by
  rcases r.1.2 with ⟨e1, _⟩ | ⟨g, cap, cur, e1, _, hg, _⟩
  · rw [e1]; intro e; cases e
  · rw [e1]
    intro e2
    have e3 : g = h := by simpa [Value.ownBlock] using e2
    subst e3
    rw [hg] at k
    cases k
    exact hne rfl
theorem RowF.ne_map {w : World} {F : Nat → Prop} {e sz n m c : Nat} {v : Value} {xs : List Value} {f : ByteArray → Option Value} (r : RowF w F e sz v n xs) (k : Mp w m c f) : v.ownBlock ≠ some m := by
  rcases r.1.2 with ⟨e1, _⟩ | ⟨g, cap, cur, e1, _, hg, _⟩
  · rw [e1]; intro e; cases e
  · rw [e1]
    intro e2
    have e3 : g = m := by simpa [Value.ownBlock] using e2
    subst e3
    obtain ⟨D, ⟨es, clock, hb, _⟩, _⟩ := k
    rw [hg] at hb
    cases hb
/-- One more element. -/
theorem AyO.push {w w1 w2 : World} {F : Nat → Prop} {vs : List Lz} {b rb ab : Nat} {nA : Option Addr} {n nc : Nat} {sf : Value} {us : List Value} {F1 F2 : Nat → Prop} {t : Lz} {u : Value} {g cap : Nat} (h : AyO w F vs b rb ab nA n nc sf us F1 F2) (hF : ∀ g, F g → g < w.heap.size)
    (hb : Below w.heap.size w w1) (ht : LzAt w1 (Rng w.heap.size w1.heap.size) t u) (hown : w2.ownsRow 0 68 1 (.slice (some ⟨g, 0, none⟩) (n + 1) cap) (n + 1) (us ++ [u])) (hg : w1.grownBy w2 (Value.slice nA n nc).ownBlock) (hat : (Value.slice nA n nc).ownBlock = some g ∨ w1.heap.size < g) :
    LzAt (w2.setCell ⟨ab, 1, none⟩ (.slice (some ⟨g, 0, none⟩) (n + 1) cap)) (fun j => F j ∨ Rng w.heap.size (w2.setCell ⟨ab, 1, none⟩ (.slice (some ⟨g, 0, none⟩) (n + 1) cap)).heap.size j) (.ary (vs ++ [t])) (.pointer (some ⟨b, 0, none⟩)) := by
  have hss : (w2.setCell ⟨ab, 1, none⟩ (.slice (some ⟨g, 0, none⟩) (n + 1) cap)).heap.size = w2.heap.size := by simp [World.setCell]
  rw [hss]
  have s1 := hb.size
  have s2 := hg.size
  have habl := hF _ h.fab
  have hbl := hF _ h.fb
  have hba : b ≠ ab := blk_ne h.blk h.ary (by decide)
  have hrb : (Value.slice nA n nc).ownBlock ≠ some b := h.row.ne h.blk (by decide)
  have hra : (Value.slice nA n nc).ownBlock ≠ some ab := h.row.ne h.ary (by decide)
  have hrl : ∀ j, (Value.slice nA n nc).ownBlock = some j → j < w.heap.size ∧ F j := fun j e => ⟨(h.row.1.lt j e).2, h.row.2 j e⟩
  have keep1 : ∀ j, j < w1.heap.size → j ≠ ab → some j ≠ (Value.slice nA n nc).ownBlock → (w2.setCell ⟨ab, 1, none⟩ (.slice (some ⟨g, 0, none⟩) (n + 1) cap)).heap[j]? = w1.heap[j]? := fun j hj h1 h2 => by
    rw [Below.heap_setCell _ _ _ _ h1]; exact hg.block j hj h2
  have keep0 : ∀ j, j < w.heap.size → j ≠ ab → some j ≠ (Value.slice nA n nc).ownBlock → (w2.setCell ⟨ab, 1, none⟩ (.slice (some ⟨g, 0, none⟩) (n + 1) cap)).heap[j]? = w.heap[j]? := fun j hj h1 h2 => by
    rw [keep1 j (by omega) h1 h2]; exact hb.block j hj
  have hgd : g ≠ b ∧ g ≠ ab ∧ (F g ∨ w1.heap.size < g) ∧ ∀ j, j < w1.heap.size → some j ≠ (Value.slice nA n nc).ownBlock → j ≠ g := by
    rcases hat with e | e
    · exact ⟨fun e2 => hrb (by rw [e, e2]), fun e2 => hra (by rw [e, e2]), .inl (hrl g e).2, fun j _ h1 h2 => h1 (by rw [e, h2])⟩
    · exact ⟨by omega, by omega, .inr e, fun j h1 _ => by omega⟩
  have hglt : g < w2.heap.size := (hown.lt g rfl).2
  have hob : ∀ j, some j ≠ (Value.slice (some (⟨g, 0, none⟩ : Addr)) (n + 1) cap).ownBlock ↔ j ≠ g := fun j => by simp [Value.ownBlock]
  have L1 := h.kids.kept (w' := w2.setCell ⟨ab, 1, none⟩ (.slice (some ⟨g, 0, none⟩) (n + 1) cap)) (by rw [hss]; omega) (fun j hj hFj => keep0 j hj (h.f2 j hFj).2.2.1 (h.f2 j hFj).2.2.2)
  have L2 := LzAt.kept (w' := w2.setCell ⟨ab, 1, none⟩ (.slice (some ⟨g, 0, none⟩) (n + 1) cap)) (by rw [hss]; omega) (fun j hj hFj => keep1 j hj (by unfold Rng at hFj; omega) (fun e => by have := (hrl j e.symm).1; unfold Rng at hFj; omega)) ht
  have L3 := L1.snoc L2 (fun j hj hFj => by have := hF _ (h.f2 j hFj).1; unfold Rng at hj; omega)
  refine AyO.shut (rb := rb) (ab := ab) (nA := some ⟨g, 0, none⟩) (n := n + 1) (nc := cap) (sf := sf) (us := us ++ [u]) (F1 := F1) (F2 := fun j => F2 j ∨ Rng w.heap.size w1.heap.size j) ⟨by rw [List.length_append, List.length_singleton, h.len], .inl h.fb, .inl h.fab, ?_, ?_, ?_, ?_, L3, ?_, ?_⟩
  · rw [keep0 b hbl hba (fun e => hrb e.symm)]; exact h.blk
  · exact h.raw.kept (by rw [hss]; omega) (fun j hj hFj => keep0 j hj (h.f1 j hFj).2.2.1 (h.f1 j hFj).2.2.2.1)
  · have : w2.heap[ab]? = some (.cells #[sf, .slice nA n nc] 115) := by
      rw [hg.block ab (by omega) (fun e => hra e.symm), hb.block ab habl]; exact h.ary
    exact res_put this rfl
  · refine ⟨own_kept hown (fun j hj e => Below.heap_setCell _ _ _ _ ?_), fun j e => ?_⟩
    · have : j = g := by simpa [Value.ownBlock] using e.symm
      show j ≠ ab
      rw [this]; exact hgd.2.1
    · have : j = g := by simpa [Value.ownBlock] using e.symm
      subst this
      rcases hgd.2.2.1 with e2 | e2
      · exact .inl e2
      · exact .inr ⟨by omega, hglt⟩
  · intro j hj
    obtain ⟨a1, a2, a3, a4, a5⟩ := h.f1 j hj
    have jl := hF j a1
    refine ⟨.inl a1, a2, a3, (hob j).2 (hgd.2.2.2 j (by omega) a4), ?_⟩
    rintro (e | e)
    · exact a5 e
    · unfold Rng at e; omega
  · intro j hj
    rcases hj with hj | hj
    · obtain ⟨a1, a2, a3, a4⟩ := h.f2 j hj
      have jl := hF j a1
      exact ⟨.inl a1, a2, a3, (hob j).2 (hgd.2.2.2 j (by omega) a4)⟩
    · unfold Rng at hj
      exact ⟨.inr ⟨hj.1, by omega⟩, by omega, by omega, (hob j).2 (hgd.2.2.2 j hj.2 (fun e => by have := (hrl j e.symm).1; omega))⟩
theorem memb_snoc : ∀ {ks : List ByteArray} {x y : ByteArray}, x ∉ ks → memb (ks ++ [x]) y = if y = x then some ks.length else memb ks y
  | [], x, y, h => by
    by_cases e : y = x
    · subst e; simp [memb]
    · simp [memb, e, Ne.symm e]
  | k :: r, x, y, h => by
    have hk : x ≠ k := fun e => h (by simp [e])
    have hr : x ∉ r := fun e => h (by simp [e])
    rw [List.cons_append]
    unfold memb
    rw [memb_snoc hr]
    by_cases e : y = x
    · subst e
      rw [if_neg (Ne.symm hk), if_pos rfl, if_pos rfl]
      simp
    · rw [if_neg e, if_neg e]
theorem fOf_snoc {ks : List ByteArray} {us : List Value} {x : ByteArray} {u : Value} (h : x ∉ ks) (hl : us.length = ks.length) : fOf (ks ++ [x]) (us ++ [u]) = putF (fOf ks us) x u := by
  funext y
  unfold fOf putF
  rw [memb_snoc h]
  by_cases e : y = x
  · rw [if_pos e, if_pos e, Option.bind_some, ← hl]
    simp
  · rw [if_neg e, if_neg e]
    show _ = (memb ks y).bind (fun j => us[j]?)
    cases hm : memb ks y with
    | none => rfl
    | some j =>
      have := (memb_lt hm).1
      rw [Option.bind_some, Option.bind_some, List.getElem?_append_left (by omega)]
/-- One more member. -/
theorem DcO.put {w w1 w2 : World} {F : Nat → Prop} {ks : List ByteArray} {vs : List Lz} {b rb db : Nat} {kA : Option Addr} {k kc m n : Nat} {sf opts : Value} {us : List Value} {F1 F2 : Nat → Prop} {t : Lz} {u : Value} {x : ByteArray} {e : Ending} (h : DcO w F ks vs b rb db kA k kc m n sf opts us F1 F2) (hF : ∀ g, F g → g < w.heap.size)
    (hb : Below w.heap.size w w1) (ht : LzAt w1 (Rng w.heap.size w1.heap.size) t u) (hx : x ∉ ks) (hS : SetA db m n k kA kc sf opts ks (fOf ks us) x u w1 e w2) :
    LzAt w2 (fun j => F j ∨ Rng w.heap.size w2.heap.size j) (.doc (ks ++ [x]) (vs ++ [t])) (.pointer (some ⟨b, 0, none⟩)) ∧ (∀ B, (∀ g, F g → B ≤ g) → B ≤ w.heap.size → Below B w w2) := by
  obtain ⟨he, hA⟩ := hS
  obtain ⟨ho, hta, hou, hsz, hM, _, hnew⟩ := hA.out
  obtain ⟨g, cap, hdoc, hown, hat, hkeep⟩ := hnew hx
  have s1 := hb.size
  have hdl := hF _ h.fdb
  have hbl := hF _ h.fb
  have hml := hF _ h.fm
  have hbd : b ≠ db := blk_ne h.blk h.doc (by decide)
  have hbm : m ≠ b := h.map.ne h.blk
  have hdm : m ≠ db := h.map.ne h.doc
  have hrb : (Value.slice kA k kc).ownBlock ≠ some b := h.row.ne h.blk (by decide)
  have hrd : (Value.slice kA k kc).ownBlock ≠ some db := h.row.ne h.doc (by decide)
  have hrm : (Value.slice kA k kc).ownBlock ≠ some m := h.row.ne_map h.map
  have hrl : ∀ j, (Value.slice kA k kc).ownBlock = some j → j < w.heap.size ∧ F j := fun j e => ⟨(h.row.1.lt j e).2, h.row.2 j e⟩
  have keep0 : ∀ j, j < w.heap.size → j ≠ db → j ≠ m → some j ≠ (Value.slice kA k kc).ownBlock → w2.heap[j]? = w.heap[j]? := fun j hj h1 h2 h3 => by
    rw [hkeep j (by omega) h1 h2 h3]; exact hb.block j hj
  have hgd : g ≠ b ∧ g ≠ db ∧ g ≠ m ∧ (F g ∨ w1.heap.size ≤ g) ∧ ∀ j, j < w1.heap.size → some j ≠ (Value.slice kA k kc).ownBlock → j ≠ g := by
    rcases hat with e | e
    · exact ⟨fun e2 => hrb (by rw [e, e2]), fun e2 => hrd (by rw [e, e2]), fun e2 => hrm (by rw [e, e2]), .inl (hrl g e).2, fun j _ h1 h2 => h1 (by rw [e, h2])⟩
    · exact ⟨by omega, by omega, by omega, .inr e, fun j h1 _ => by omega⟩
  have hglt : g < w2.heap.size := (hown.lt g rfl).2
  have hob : ∀ j, some j ≠ (Value.slice (some (⟨g, 0, none⟩ : Addr)) (k + 1) cap).ownBlock ↔ j ≠ g := fun j => by simp [Value.ownBlock]
  have L1 := h.kids.kept (w' := w2) (by omega) (fun j hj hFj => keep0 j hj (h.f2 j hFj).2.2.1 (h.f2 j hFj).2.2.2.1 (h.f2 j hFj).2.2.2.2)
  have L2 := LzAt.kept (w' := w2) (by omega) (fun j hj hFj => hkeep j hj (by unfold Rng at hFj; omega) (by unfold Rng at hFj; omega) (fun e => by have := (hrl j e.symm).1; unfold Rng at hFj; omega)) ht
  have L3 := L1.snoc L2 (fun j hj hFj => by have := hF _ (h.f2 j hFj).1; unfold Rng at hj; omega)
  have hul : us.length = ks.length := by rw [h.kids.len, h.lenv, h.len]
  constructor
  · refine DcO.shut (rb := rb) (db := db) (kA := some ⟨g, 0, none⟩) (k := k + 1) (kc := cap) (m := m) (n := n + 1) (sf := sf) (opts := opts) (us := us ++ [u]) (F1 := F1) (F2 := fun j => F2 j ∨ Rng w.heap.size w1.heap.size j)
      ⟨by rw [List.length_append, List.length_singleton, h.len], by rw [List.length_append, List.length_singleton, h.lenv], .inl h.fb, .inl h.fdb, .inl h.fm, ?_, ?_, hdoc, ?_, ?_, Nat.succ_le_succ h.hn, L3, ?_, ?_, ?_⟩
    · rw [keep0 b hbl hbd (Ne.symm hbm) (fun e => hrb e.symm)]; exact h.blk
    · exact h.raw.kept (by omega) (fun j hj hFj => keep0 j hj (h.f1 j hFj).2.2.1 (h.f1 j hFj).2.2.2.1 (h.f1 j hFj).2.2.2.2.1)
    · rw [List.map_append]
      refine ⟨hown, fun j e => ?_⟩
      have : j = g := by simpa [Value.ownBlock] using e.symm
      subst this
      rcases hgd.2.2.2.1 with e2 | e2
      · exact .inl e2
      · exact .inr ⟨by omega, hglt⟩
    · rw [fOf_snoc hx hul]; exact hM
    · intro j hj
      obtain ⟨a1, a2, a3, a4, a5, a6⟩ := h.f1 j hj
      have jl := hF j a1
      refine ⟨.inl a1, a2, a3, a4, (hob j).2 (hgd.2.2.2.2 j (by omega) a5), ?_⟩
      rintro (e | e)
      · exact a6 e
      · unfold Rng at e; omega
    · intro j hj
      rcases hj with hj | hj
      · obtain ⟨a1, a2, a3, a4, a5⟩ := h.f2 j hj
        have jl := hF j a1
        exact ⟨.inl a1, a2, a3, a4, (hob j).2 (hgd.2.2.2.2 j (by omega) a5)⟩
      · unfold Rng at hj
        exact ⟨.inr ⟨hj.1, by omega⟩, by omega, by omega, by omega, (hob j).2 (hgd.2.2.2.2 j hj.2 (fun e => by have := (hrl j e.symm).1; omega))⟩
    · rw [List.nodup_append]
      refine ⟨h.nodup, by simp, fun a ha b hb e => ?_⟩
      simp at hb
      subst hb
      subst e
      exact hx ha
  · intro B hB1 hB2
    refine ⟨ho.trans hb.os, hta.trans hb.tape, hou.trans hb.output, by omega, fun j hj => keep0 j (by omega) ?_ ?_ ?_⟩
    · have := hB1 _ h.fdb; omega
    · have := hB1 _ h.fm; omega
    · intro e; have := hB1 _ (hrl j e.symm).2; omega
end Go.Proofs.YtmomjgkbimeeoaaDoor.G
