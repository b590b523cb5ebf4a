/- json-patch: lazy nodes opened; an array's and an object's next element. -/
import Derived.Test.YtmomjgkbimeeoaaGvSt
namespace Go.Proofs.Ytmomjgkbimeeoaa.G
set_option linter.unusedVariables false
set_option linter.unusedSimpArgs false
open Go.RowKit Go.Proofs.YtmomjgkbimeeoaaW.PrintWords
def putF (f : ByteArray → Option Value) (x : ByteArray) (v : Value) (k : ByteArray) : Option Value := if k = x then some v else f k
theorem rowF_len {w : World} {F : Nat → Prop} {e sz n : Nat} {a : Option Addr} {k c : Nat} {xs : List Value} (h : RowF w F e sz (.slice a k c) n xs) : k = n := by
  rcases h.1.2 with ⟨e1, e2⟩ | ⟨g, cap, cur, e1, _⟩
  · cases e1; exact e2.symm
  · cases e1; rfl
theorem memb_snoc : ∀ {ks : List ByteArray} {x y : ByteArray}, x ∉ ks → memb (ks ++ [x]) y = if y = x then some ks.length else memb ks y
  | [], x, y, h => by
    by_cases e : y = x
    · subst e; simp [memb]
    · simp [memb, e, Ne.symm e]
  | k :: r, x, y, h => by
    have hk : x ≠ k := fun e => h (by simp [e])
    have hr : x ∉ r := fun e => h (by simp [e])
    rw [List.cons_append]
    unfold memb
    rw [memb_snoc hr]
    by_cases e : y = x
    · subst e
      rw [if_neg (Ne.symm hk), if_pos rfl, if_pos rfl]
      simp
    · rw [if_neg e, if_neg e]
theorem fOf_snoc {ks : List ByteArray} {us : List Value} {x : ByteArray} {u : Value} (h : x ∉ ks) (hl : us.length = ks.length) : fOf (ks ++ [x]) (us ++ [u]) = putF (fOf ks us) x u := by
  funext y
  unfold fOf putF
  rw [memb_snoc h]
  by_cases e : y = x
  · rw [if_pos e, if_pos e, Option.bind_some, ← hl]
    simp
  · rw [if_neg e, if_neg e]
    show _ = (memb ks y).bind (fun j => us[j]?)
    cases hm : memb ks y with
    | none => rfl
    | some j =>
      have := (memb_lt hm).1
      rw [Option.bind_some, Option.bind_some, List.getElem?_append_left (by omega)]
end Go.Proofs.Ytmomjgkbimeeoaa.G
