/- json-patch: values alike but for the order of members (plain). -/
import Derived.Test.YtmomjgkbimeeoaaGvPn
namespace Go.Proofs.Ytmomjgkbimeeoaa.G
set_option linter.unusedVariables false
set_option linter.unusedSimpArgs false
open Go.RowKit Go.Proofs.YtmomjgkbimeeoaaW.PrintWords

theorem alikes_iff : ∀ (r : List Nd) (o : Bool) (ks : List ByteArray) (i : Nat) (b : Nd), alikes o ks r i b = true ↔ ∀ j (h : j < r.length), ∃ m, pick o ks (i + j) b = some m ∧ alike r[j] m = true
  | [], o, ks, i, b => by
    unfold alikes
    exact ⟨fun _ j h => absurd h (by simp), fun _ => rfl⟩
  | kid :: r, o, ks, i, b => by
    unfold alikes
    rw [Bool.and_eq_true, alikes_iff r o ks (i + 1) b]
    constructor
    · rintro ⟨h1, h2⟩ j hj
      cases j with
      | zero =>
        rw [Nat.add_zero]
        cases hp : pick o ks i b with
        | none => rw [hp] at h1; cases h1
        | some m => rw [hp] at h1; exact ⟨m, rfl, h1⟩
      | succ j =>
        obtain ⟨m, h3, h4⟩ := h2 j (by simpa using hj)
        exact ⟨m, by rw [← h3]; congr 1; omega, by simpa using h4⟩
    · intro h
      constructor
      · obtain ⟨m, h3, h4⟩ := h 0 (by simp)
        rw [Nat.add_zero] at h3
        rw [h3]
        exact h4
      · intro j hj
        obtain ⟨m, h3, h4⟩ := h (j + 1) (by simpa using hj)
        exact ⟨m, by rw [← h3]; congr 1; omega, by simpa using h4⟩
theorem alike_eq (k : Int) (t : ByteArray) (ks : List ByteArray) (kids : List Nd) (b : Nd) : alike (.mk k t ks kids) b = (decide (k = b.kind) && decide (t = b.text) && decide (kids.length = b.kids.length) && decide (ks.length = b.keys.length) && alikes (decide (k = 6)) ks kids 0 b) := by rw [alike]
/-- Two arrays. -/
theorem alike_ary {t t2 : ByteArray} {ks ks2 : List ByteArray} {kids kids2 : List Nd} (ht : t = t2) (hk : ks.length = ks2.length) :
    alike (.mk 5 t ks kids) (.mk 5 t2 ks2 kids2) = true ↔ kids.length = kids2.length ∧ ∀ i (h : i < kids.length) (h2 : i < kids2.length), alike kids[i] kids2[i] = true := by
  rw [alike_eq]
  simp only [Bool.and_eq_true, decide_eq_true_eq]
  rw [alikes_iff]
  constructor
  · rintro ⟨⟨⟨_, hl0⟩, _⟩, h⟩
    have hl : kids.length = kids2.length := hl0
    refine ⟨hl, fun i h1 h2 => ?_⟩
    obtain ⟨m, h3, h4⟩ := h i h1
    unfold pick at h3
    rw [if_neg (by decide), Nat.zero_add] at h3
    have : kids2[i]? = some m := h3
    rw [List.getElem?_eq_getElem h2] at this
    cases this
    exact h4
  · rintro ⟨hl, h⟩
    refine ⟨⟨⟨⟨rfl, ht⟩, hl⟩, hk⟩, fun j hj => ⟨kids2[j]'(by omega), ?_, h j hj (by omega)⟩⟩
    unfold pick
    rw [if_neg (by decide), Nat.zero_add]
    show kids2[j]? = _
    exact List.getElem?_eq_getElem (by omega)
/-- Two objects. -/
theorem alike_doc {t t2 : ByteArray} {ks ks2 : List ByteArray} {kids kids2 : List Nd} (ht : t = t2) (hk : ks.length = kids.length) (hk2 : ks2.length = kids2.length) :
    alike (.mk 6 t ks kids) (.mk 6 t2 ks2 kids2) = true ↔ ks.length = ks2.length ∧ ∀ i (h : i < kids.length), ∃ j, ∃ (h2 : j < kids2.length), memb ks2 (ks.getD i noStr) = some j ∧ alike kids[i] kids2[j] = true := by
  rw [alike_eq]
  simp only [Bool.and_eq_true, decide_eq_true_eq]
  rw [alikes_iff]
  constructor
  · rintro ⟨⟨_, hl0⟩, h⟩
    have hl2 : ks.length = ks2.length := hl0
    refine ⟨hl2, fun i h1 => ?_⟩
    obtain ⟨m, h3, h4⟩ := h i h1
    unfold pick at h3
    rw [if_pos (by decide), Nat.zero_add] at h3
    have h5 : (memb ks2 (ks.getD i noStr)).bind (fun j => kids2[j]?) = some m := h3
    obtain ⟨j, h6, h7⟩ := Option.bind_eq_some_iff.1 h5
    obtain ⟨h8, h9⟩ := List.getElem?_eq_some_iff.1 h7
    exact ⟨j, h8, h6, by rw [h9]; exact h4⟩
  · rintro ⟨hl, h⟩
    refine ⟨⟨⟨⟨rfl, ht⟩, show kids.length = kids2.length by omega⟩, hl⟩, fun i hi => ?_⟩
    obtain ⟨j, h1, h2, h3⟩ := h i hi
    refine ⟨kids2[j], ?_, h3⟩
    unfold pick
    rw [if_pos (by decide), Nat.zero_add]
    show (memb ks2 (ks.getD i noStr)).bind (fun j => kids2[j]?) = _
    rw [h2, Option.bind_some]
    exact List.getElem?_eq_getElem h1
theorem nodup_len : ∀ (l m : List ByteArray), l.Nodup → (∀ x ∈ l, x ∈ m) → l.length ≤ m.length
  | [], m, _, _ => Nat.zero_le _
  | x :: l, m, hn, hs => by
    rw [List.nodup_cons] at hn
    have h1 := nodup_len l (m.filter (fun y => decide (y ≠ x))) hn.2 (fun y hy => List.mem_filter.2 ⟨hs y (by simp [hy]), by simp; intro e; exact hn.1 (e ▸ hy)⟩)
    have h2 : (m.filter (fun y => decide (y ≠ x))).length < m.length := List.length_filter_lt_length_iff_exists.2 ⟨x, hs x (by simp), by simp⟩
    rw [List.length_cons]
    omega
theorem nodup_back {l m : List ByteArray} (hl : l.Nodup) (hs : ∀ x ∈ l, x ∈ m) (hlen : m.length ≤ l.length) : ∀ x ∈ m, x ∈ l := by
  intro x hx
  by_cases h : x ∈ l
  · exact h
  · have := nodup_len (x :: l) m (List.nodup_cons.2 ⟨h, hl⟩) (fun y hy => by rcases List.mem_cons.1 hy with rfl | hy; exact hx; exact hs y hy)
    rw [List.length_cons] at this
    omega
theorem getD_mem {ks : List ByteArray} {i : Nat} (h : i < ks.length) : ks.getD i noStr ∈ ks := by
  rw [List.getD_eq_getElem?_getD, List.getElem?_eq_getElem h]; exact List.getElem_mem _
theorem memb_some {ks : List ByteArray} {x : ByteArray} (h : x ∈ ks) : ∃ i, memb ks x = some i := by
  cases hm : memb ks x with
  | none => exact absurd h (memb_none.1 hm)
  | some i => exact ⟨i, rfl⟩
/-- Two objects, gone through by the second one's names. -/
theorem alike_turn {t t2 : ByteArray} {ks ks2 : List ByteArray} {kids kids2 : List Nd} (ht : t = t2) (hk : ks.length = kids.length) (hk2 : ks2.length = kids2.length) (hn : ks.Nodup) (hn2 : ks2.Nodup) :
    alike (.mk 6 t ks kids) (.mk 6 t2 ks2 kids2) = true ↔ ks.length = ks2.length ∧ ∀ j (h : j < kids2.length), ∃ i, ∃ (h2 : i < kids.length), memb ks (ks2.getD j noStr) = some i ∧ alike kids[i] kids2[j] = true := by
  rw [alike_doc ht hk hk2]
  constructor
  · rintro ⟨hl, h⟩
    refine ⟨hl, fun j hj => ?_⟩
    have hsub : ∀ x ∈ ks, x ∈ ks2 := fun x hx => by
      obtain ⟨i, hi, e⟩ := List.getElem_of_mem hx
      obtain ⟨j', _, h2, _⟩ := h i (by omega)
      obtain ⟨h3, h4⟩ := memb_lt h2
      rw [← e]
      have h5 : ks2.getD j' noStr = ks[i] := by rw [h4, List.getD_eq_getElem?_getD, List.getElem?_eq_getElem hi]; rfl
      rw [← h5]
      exact getD_mem h3
    have hx := nodup_back hn hsub (by omega) (ks2.getD j noStr) (getD_mem (by omega))
    obtain ⟨i, hi⟩ := memb_some hx
    obtain ⟨h3, h4⟩ := memb_lt hi
    refine ⟨i, by omega, hi, ?_⟩
    obtain ⟨j', hj', h5, h6⟩ := h i (by omega)
    rw [h4, memb_nodup hn2 j (by omega)] at h5
    cases h5
    exact h6
  · rintro ⟨hl, h⟩
    refine ⟨hl, fun i hi => ?_⟩
    have hsub : ∀ x ∈ ks2, x ∈ ks := fun x hx => by
      obtain ⟨j, hj, e⟩ := List.getElem_of_mem hx
      obtain ⟨i', _, h2, _⟩ := h j (by omega)
      obtain ⟨h3, h4⟩ := memb_lt h2
      rw [← e]
      have h5 : ks.getD i' noStr = ks2[j] := by rw [h4, List.getD_eq_getElem?_getD, List.getElem?_eq_getElem hj]; rfl
      rw [← h5]
      exact getD_mem h3
    have hx := nodup_back hn2 hsub (by omega) (ks.getD i noStr) (getD_mem (by omega))
    obtain ⟨j, hj⟩ := memb_some hx
    obtain ⟨h3, h4⟩ := memb_lt hj
    refine ⟨j, by omega, hj, ?_⟩
    obtain ⟨i', hi', h5, h6⟩ := h j (by omega)
    rw [h4, memb_nodup hn i (by omega)] at h5
    cases h5
    exact h6
/-- Values of different kinds. -/
theorem alike_kind {a b : Nd} (h : a.kind ≠ b.kind) : alike a b = false := by
  cases a with
  | mk k t ks kids =>
    rw [alike_eq]
    have : decide (k = b.kind) = false := decide_eq_false h
    rw [this]
    rfl
/-- Leaves. -/
theorem alike_leaf {k : Int} {t t2 : ByteArray} (ks ks2 : List ByteArray) (kids kids2 : List Nd) (h1 : ks = []) (h2 : kids = []) (h3 : ks2 = []) (h4 : kids2 = []) : alike (.mk k t ks kids) (.mk k t2 ks2 kids2) = decide (t = t2) := by
  subst h1 h2 h3 h4
  rw [alike_eq, alikes]
  simp [Nd.kind, Nd.text, Nd.kids, Nd.keys]
  try rfl
end Go.Proofs.Ytmomjgkbimeeoaa.G
