/- Patterns: terms, what fits them, how they are written. -/
import Derived.Test.YtiecdhkmlpceoaaDoorGvB
import Derived.Test.YtiecdhkmlpceoaaDoorGvP
namespace Go.Proofs.YtiecdhkmlpceoaaDoor.G
set_option linter.unusedVariables false
set_option linter.unusedSimpArgs false
open Go.RowKit Go.Proofs.YtiecdhkmlpceoaaDoorW.PrintWords
open Go.Lib (decodeL decodeLastL)

inductive Tm
  | star
  | one
  | lit (esc : Bool) (q : List UInt8)
def Tm.ok : Tm → Prop
  | .lit e q => IsChr q ∧ (e = false → q ≠ [42] ∧ q ≠ [63] ∧ q ≠ [92])
  | _ => True
def Tm.bytes : Tm → List UInt8
  | .star => [42]
  | .one => [63]
  | .lit e q => (if e then [92] else []) ++ q
def rend (ts : List Tm) : List UInt8 := (ts.map Tm.bytes).flatten
def OkT (ts : List Tm) : Prop := ∀ t ∈ ts, t.ok
def OkC (cs : List (List UInt8)) : Prop := ∀ q ∈ cs, IsChr q
theorem rend_cons (t : Tm) (ts : List Tm) : rend (t :: ts) = t.bytes ++ rend ts := by simp [rend]
theorem rend_append (a b : List Tm) : rend (a ++ b) = rend a ++ rend b := by simp [rend]
inductive Fit : List Tm → List (List UInt8) → Prop
  | nil : Fit [] []
  | skip {ts cs} : Fit ts cs → Fit (.star :: ts) cs
  | take {ts c cs} : Fit (.star :: ts) cs → Fit (.star :: ts) (c :: cs)
  | one {ts c cs} : Fit ts cs → Fit (.one :: ts) (c :: cs)
  | lit {ts e q cs} : Fit ts cs → Fit (.lit e q :: ts) (q :: cs)
theorem fit_nil {cs : List (List UInt8)} : Fit [] cs ↔ cs = [] := ⟨fun h => by cases h; rfl, fun h => h ▸ .nil⟩
theorem fit_star_nil {ts : List Tm} : Fit (.star :: ts) [] ↔ Fit ts [] := ⟨fun h => by cases h; assumption, .skip⟩
theorem fit_star_cons {ts : List Tm} {c : List UInt8} {cs : List (List UInt8)} : Fit (.star :: ts) (c :: cs) ↔ Fit ts (c :: cs) ∨ Fit (.star :: ts) cs :=
  ⟨fun h => by cases h with
    | skip h => exact .inl h
    | take h => exact .inr h, fun h => h.elim .skip .take⟩
theorem fit_one_nil {ts : List Tm} : ¬ Fit (.one :: ts) [] := fun h => by cases h
theorem fit_one {ts : List Tm} {c : List UInt8} {cs : List (List UInt8)} : Fit (.one :: ts) (c :: cs) ↔ Fit ts cs := ⟨fun h => by cases h; assumption, .one⟩
theorem fit_lit_nil {ts : List Tm} {e : Bool} {q : List UInt8} : ¬ Fit (.lit e q :: ts) [] := fun h => by cases h
theorem fit_lit {ts : List Tm} {e : Bool} {q c : List UInt8} {cs : List (List UInt8)} : Fit (.lit e q :: ts) (c :: cs) ↔ c = q ∧ Fit ts cs := ⟨fun h => by cases h; exact ⟨rfl, by assumption⟩, fun ⟨h1, h2⟩ => h1 ▸ .lit h2⟩
theorem fit_star_any {ts : List Tm} : ∀ (x : List (List UInt8)) {y : List (List UInt8)}, Fit ts y → Fit (.star :: ts) (x ++ y)
  | [], y, h => .skip h
  | _ :: x, y, h => .take (fit_star_any x h)
theorem fit_star_all (cs : List (List UInt8)) : Fit [.star] cs := by have := fit_star_any cs Fit.nil; simpa using this
theorem fit_star_ex {ts : List Tm} {cs : List (List UInt8)} (h : Fit (.star :: ts) cs) : ∃ x y, cs = x ++ y ∧ Fit ts y := by
  generalize ht : (Tm.star :: ts) = us at h
  induction h with
  | nil => cases ht
  | skip h => injection ht with _ h2; subst h2; exact ⟨[], _, rfl, h⟩
  | take h ih => obtain ⟨x, y, rfl, h2⟩ := ih ht; exact ⟨_ :: x, y, rfl, h2⟩
  | one => injection ht with h1 _; cases h1
  | lit => injection ht with h1 _; cases h1
theorem fit_star_star {ts : List Tm} {cs : List (List UInt8)} : Fit (.star :: .star :: ts) cs ↔ Fit (.star :: ts) cs := by
  constructor
  · intro h
    obtain ⟨x, y, rfl, h2⟩ := fit_star_ex h
    obtain ⟨x', y', rfl, h3⟩ := fit_star_ex h2
    rw [← List.append_assoc]; exact fit_star_any _ h3
  · exact .skip
theorem fit_append : ∀ {a b : List Tm} {cs : List (List UInt8)}, Fit (a ++ b) cs ↔ ∃ x y, cs = x ++ y ∧ Fit a x ∧ Fit b y := by
  intro a
  induction a with
  | nil => intro b cs; exact ⟨fun h => ⟨[], cs, rfl, .nil, h⟩, fun ⟨x, y, e, h1, h2⟩ => by rw [fit_nil] at h1; subst h1; subst e; exact h2⟩
  | cons t a ih =>
    intro b cs
    rw [List.cons_append]
    constructor
    · intro h
      cases t with
      | star =>
        obtain ⟨x, y, rfl, h2⟩ := fit_star_ex h
        obtain ⟨x', y', rfl, h3, h4⟩ := ih.1 h2
        exact ⟨x ++ x', y', by rw [List.append_assoc], fit_star_any x h3, h4⟩
      | one =>
        cases cs with
        | nil => exact absurd h fit_one_nil
        | cons c cs => obtain ⟨x, y, rfl, h3, h4⟩ := ih.1 (fit_one.1 h); exact ⟨c :: x, y, rfl, .one h3, h4⟩
      | lit e q =>
        cases cs with
        | nil => exact absurd h fit_lit_nil
        | cons c cs => obtain ⟨rfl, h5⟩ := fit_lit.1 h; obtain ⟨x, y, rfl, h3, h4⟩ := ih.1 h5; exact ⟨c :: x, y, rfl, .lit h3, h4⟩
    · rintro ⟨x, y, rfl, h1, h2⟩
      cases t with
      | star =>
        obtain ⟨x1, x2, rfl, h3⟩ := fit_star_ex h1
        rw [List.append_assoc]
        exact fit_star_any x1 (ih.2 ⟨x2, y, rfl, h3, h2⟩)
      | one =>
        cases x with
        | nil => exact absurd h1 fit_one_nil
        | cons c x => exact .one (ih.2 ⟨x, y, rfl, fit_one.1 h1, h2⟩)
      | lit e q =>
        cases x with
        | nil => exact absurd h1 fit_lit_nil
        | cons c x => obtain ⟨rfl, h5⟩ := fit_lit.1 h1; exact .lit (ih.2 ⟨x, y, rfl, h5, h2⟩)
theorem append_one {x y : List (List UInt8)} {c d : List UInt8} (h : x ++ [c] = y ++ [d]) : x = y ∧ c = d := by
  have := List.append_inj' h rfl
  exact ⟨this.1, by simpa using this.2⟩
theorem fit_end_one {a : List Tm} {cs : List (List UInt8)} {c : List UInt8} : Fit (a ++ [.one]) (cs ++ [c]) ↔ Fit a cs := by
  rw [fit_append]
  constructor
  · rintro ⟨x, y, e, h1, h2⟩
    cases h2 with
    | one h2 => rw [fit_nil] at h2; subst h2; obtain ⟨rfl, _⟩ := append_one e; exact h1
  · exact fun h => ⟨cs, [c], rfl, h, .one .nil⟩
theorem fit_end_lit {a : List Tm} {cs : List (List UInt8)} {c q : List UInt8} {e : Bool} : Fit (a ++ [.lit e q]) (cs ++ [c]) ↔ c = q ∧ Fit a cs := by
  rw [fit_append]
  constructor
  · rintro ⟨x, y, e1, h1, h2⟩
    cases h2 with
    | lit h2 => rw [fit_nil] at h2; subst h2; obtain ⟨rfl, rfl⟩ := append_one e1; exact ⟨rfl, h1⟩
  · rintro ⟨rfl, h⟩; exact ⟨cs, [c], rfl, h, .lit .nil⟩
theorem fit_end_nil {a : List Tm} {t : Tm} (ht : t ≠ .star) : ¬ Fit (a ++ [t]) [] := by
  rw [fit_append]
  rintro ⟨x, y, e, h1, h2⟩
  have : y = [] := by have := congrArg List.length e; simp at this; exact List.eq_nil_of_length_eq_zero (by omega)
  subst this
  cases t with
  | star => exact ht rfl
  | one => exact fit_one_nil h2
  | lit => exact fit_lit_nil h2
theorem fit_end_star {a : List Tm} {cs : List (List UInt8)} {c : List UInt8} : Fit (a ++ [.star]) (cs ++ [c]) ↔ Fit a (cs ++ [c]) ∨ Fit (a ++ [.star]) cs := by
  rw [fit_append, fit_append]
  constructor
  · rintro ⟨x, y, e, h1, h2⟩
    rcases List.eq_nil_or_concat y with rfl | ⟨y', d, rfl⟩
    · left; rw [List.append_nil] at e; rw [e]; exact h1
    · right
      rw [List.concat_eq_append, ← List.append_assoc] at e
      obtain ⟨rfl, _⟩ := append_one e
      exact ⟨x, y', rfl, h1, fit_star_all _⟩
  · rintro (h | ⟨x, y, rfl, h1, h2⟩)
    · exact ⟨_, [], by simp, h, fit_star_all _⟩
    · exact ⟨x, y ++ [c], by simp, h1, fit_star_all _⟩
theorem fit_end_star_nil {a : List Tm} : Fit (a ++ [.star]) [] ↔ Fit a [] := by
  rw [fit_append]
  constructor
  · rintro ⟨x, y, e, h1, h2⟩
    have : x = [] := by have := congrArg List.length e; simp at this; exact List.eq_nil_of_length_eq_zero (by omega)
    subst this; exact h1
  · exact fun h => ⟨[], [], rfl, h, fit_star_all _⟩

/-! ### backslashes ahead of a term -/
def ints (l : List UInt8) : List Int := l.map fun b => (b.toNat : Int)
theorem ints_append (a b : List UInt8) : ints (a ++ b) = ints a ++ ints b := by simp [ints]
theorem trail_end {l : List Int} {q : List UInt8} (h : IsChr q) (hq : q ≠ [92]) : trail (l ++ ints q) = 0 := by
  have key : ∀ (p : List UInt8) (b : UInt8), q = p ++ [b] → b.toNat ≠ 92 → trail (l ++ ints q) = 0 := by
    intro p b e hb
    rw [e, ints_append, ← List.append_assoc]
    have : ints [b] = [(b.toNat : Int)] := rfl
    rw [this, trail_cons, if_neg (by omega)]
  rcases chr_shape h with ⟨a, rfl, c⟩ | ⟨a, b, rfl, c1, c2⟩ | ⟨a, b, c, rfl, c1, c2, c3⟩ | ⟨a, b, c, d, rfl, c1, c2, c3, c4⟩
  · refine key [] a rfl (fun e => hq ?_)
    have : a = 92 := UInt8.toNat_inj.1 e
    rw [this]
  · exact key [a] b rfl (by omega)
  · exact key [a, b] c rfl (by omega)
  · exact key [a, b, c] d rfl (by omega)
theorem trail_term {l : List Int} {t : Tm} (ht : t.ok) (h : trail l % 2 = 0) : trail (l ++ ints t.bytes) % 2 = 0 := by
  cases t with
  | star => have : ints Tm.star.bytes = [42] := rfl; rw [this, trail_cons, if_neg (by decide)]
  | one => have : ints Tm.one.bytes = [63] := rfl; rw [this, trail_cons, if_neg (by decide)]
  | lit e q =>
    obtain ⟨h1, h2⟩ := ht
    by_cases hq : q = [92]
    · subst hq
      cases e
      · exact absurd rfl (h2 rfl).2.2
      · have e1 : ints (Tm.lit true [92]).bytes = [92] ++ [92] := rfl
        rw [e1, ← List.append_assoc, trail_cons, if_pos rfl, trail_cons, if_pos rfl]; omega
    · have e1 : (Tm.lit e q).bytes = (if e then [92] else []) ++ q := rfl
      rw [e1, ints_append, ← List.append_assoc, trail_end h1 hq]
theorem trail_rend : ∀ (ts : List Tm) (l : List Int), OkT ts → trail l % 2 = 0 → trail (l ++ ints (rend ts)) % 2 = 0
  | [], l, _, h => by simpa [rend, ints] using h
  | t :: ts, l, ho, h => by
    rw [rend_cons, ints_append, ← List.append_assoc]
    exact trail_rend ts _ (fun u hu => ho u (by simp [hu])) (trail_term (ho t (by simp)) h)
theorem run_app (a b : List Int) : run (a ++ b) a.length = trail a := by unfold run; rw [List.take_left]
end Go.Proofs.YtiecdhkmlpceoaaDoor.G
