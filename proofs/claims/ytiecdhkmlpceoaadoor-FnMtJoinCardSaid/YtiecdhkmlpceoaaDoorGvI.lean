/- What the reference answers, and what Match answers. -/
import Derived.Test.YtiecdhkmlpceoaaDoorGvG
namespace Go.Proofs.YtiecdhkmlpceoaaDoor.G
set_option linter.unusedVariables false
set_option linter.unusedSimpArgs false
open Go.RowKit Go.Proofs.YtiecdhkmlpceoaaDoorW.PrintWords

/-- A text and a pattern that are told: characters, terms, and whether they fit. -/
def Told (s p : ByteArray) (b : Bool) : Prop := ∃ cs ts, OkC cs ∧ OkT ts ∧ s.data.toList = cs.flatten ∧ p.data.toList = rend ts ∧ (b = true ↔ Fit ts cs)
def Tells (s p : ByteArray) (w : World) (e : Ending) (w' : World) : Prop :=
  ∃ b ok, e = .returned (.tuple #[.bool b, .bool ok]) ∧ Aside0 (ok = true → Told s p b) ∧ Below w.heap.size w w'
theorem two_below {w w1 w2 : World} (h1 : Below w.heap.size w w1) (h2 : Below w1.heap.size w1 w2) : Below w.heap.size w w2 := h1.trans (h2.mono h1.size)
theorem chars_le {cs : List (List UInt8)} (h : OkC cs) : cs.length ≤ cs.flatten.length := by
  induction cs with
  | nil => simp
  | cons c cs ih =>
    have h1 := chr_pos (h c (by simp))
    have h2 := ih (fun q hq => h q (by simp [hq]))
    have : 0 < c.length := by
      rcases Nat.eq_zero_or_pos c.length with h | h
      · rw [List.eq_nil_of_length_eq_zero h] at h1; simp at h1
      · exact h
    simp only [List.length_cons, List.flatten_cons, List.length_append]; omega
theorem terms_le {ts : List Tm} (h : OkT ts) : ts.length ≤ (rend ts).length := by
  induction ts with
  | nil => simp
  | cons t ts ih =>
    have h2 := ih (fun q hq => h q (by simp [hq]))
    have h1 : 0 < t.bytes.length := by
      match t, h t (by simp) with
      | .star, _ => decide
      | .one, _ => decide
      | .lit true q, _ => simp [Tm.bytes]
      | .lit false q, ⟨h1, _⟩ =>
        have := chr_pos h1
        simp [Tm.bytes]
        rcases q with _ | ⟨a, q⟩
        · simp at this
        · simp
    rw [rend_cons]
    simp only [List.length_cons, List.length_append]; omega
theorem c_below {w w' : World} {b : Nat} {v : Value} {cs : List (List UInt8)} (h : CRow w b v cs) (hb : Below w.heap.size w w') : CRow w' b v cs := row_keep h hb
set_option maxHeartbeats 4000000 in
set_option maxRecDepth 100000 in
theorem matches_calls (s p : ByteArray) (w : World) (hs : s.size ≤ 65536) (hp : p.size ≤ 65536) : Calls Tryd.prog 28 #[.string s, .string p] w (Tells s p w) := by
  have C := Aside0.mk (fun W => chars_calls s W hs)
  have D := Aside0.mk (fun W => terms_calls p W hp)
  go_enter Tryd.func28, Tryd.ntmps28
  go_upto_if 25 with (first
    | (go_at_call 42; refine (C.out _).mono ?_; rintro e w1 ⟨v1, ok1, cs, rfl, hb1, h1⟩; have H1 := Aside0.mk h1; clear h1)
    | (go_at_call 43; refine (D.out _).mono ?_; rintro e w2 ⟨v2, ok2, ts, rfl, hb2, h2⟩; have H2 := Aside0.mk h2; clear h2))
  all_goals (cases ok1 <;> cases ok2)
  all_goals (try contradiction)
  all_goals first
    | (obtain ⟨a1, a2, a3⟩ := H1.out rfl
       obtain ⟨b1, b2, b3⟩ := H2.out rfl
       have F := Aside0.mk (fits_calls v1 v2 cs ts w2 w.heap.size w1.heap.size (c_below a3 hb2) b3 a1 b1 (by have := chars_le a1; rw [← a2, ← size_list] at this; omega) (by have := terms_le b1; rw [← b2, ← size_list] at this; omega))
       have A := Aside0.mk (And.intro a1 (And.intro b1 (And.intro a2 b2)))
       clear a1 a2 a3 b1 b2 b3 H1 H2
       go_wp2_with (go_at_call 44; refine F.out.mono ?_; rintro e w3 ⟨rfl, hb3⟩)
       go_ret2
       refine ⟨_, true, rfl, ⟨fun _ => ⟨cs, ts, A.out.1, A.out.2.1, A.out.2.2.1, A.out.2.2.2, ?_⟩⟩, two_below (two_below hb1 hb2) hb3⟩
       rw [fits_iff, List.take_of_length_le (Nat.le_refl _)])
    | (go_wp2_with fail
       all_goals go_ret2
       all_goals exact ⟨false, false, rfl, ⟨fun h => by cases h⟩, two_below hb1 hb2⟩)
def Tells2 (s p : ByteArray) (w : World) (e : Ending) (w' : World) : Prop :=
  ∃ b ok, e = .returned (.tuple #[.bool b, .bool ok]) ∧ Aside0 (ok = true → Told s p b ∧ s.size ≤ 4096 ∧ p.size ≤ 4096) ∧ Below w.heap.size w w'
set_option maxHeartbeats 4000000 in
set_option maxRecDepth 100000 in
theorem told_calls (s p : ByteArray) (w : World) (hs : s.size ≤ 9223372036854775807) (hp : p.size ≤ 9223372036854775807) : Calls Tryd.prog 11 #[.string s, .string p] w (Tells2 s p w) := by
  by_cases h1 : 4096 < s.size
  · go_enter Tryd.func11, Tryd.ntmps11
    go_wp2_with fail
    all_goals go_ret2
    all_goals exact ⟨false, false, rfl, ⟨fun h => by cases h⟩, Below.refl _ _⟩
  · by_cases h2 : 4096 < p.size
    · go_enter Tryd.func11, Tryd.ntmps11
      go_wp2_with fail
      all_goals go_ret2
      all_goals exact ⟨false, false, rfl, ⟨fun h => by cases h⟩, Below.refl _ _⟩
    · have C := Aside0.mk (matches_calls s p w (by omega) (by omega))
      go_enter Tryd.func11, Tryd.ntmps11
      go_wp2_with (go_at_call 28; refine C.out.mono ?_; rintro e w1 ⟨b, ok, rfl, h3, hb⟩)
      all_goals go_ret2
      all_goals exact ⟨b, ok, rfl, ⟨fun h => ⟨h3.out h, by omega, by omega⟩⟩, hb⟩
/-! ### Match -/
def MAns (cs : List (List UInt8)) (ts : List Tm) (w : World) (e : Ending) (w' : World) : Prop :=
  ∃ b, e = .returned (.bool b) ∧ Aside0 (b = true ↔ Fit ts cs) ∧ Below w.heap.size w w'
theorem rend_star {ts : List Tm} (h : OkT ts) (hr : rend ts = [42]) : ts = [.star] := by
  match ts with
  | [] => simp [rend] at hr
  | t :: ts =>
    rw [rend_cons] at hr
    have hl := terms_le (ts := ts) (fun q hq => h q (by simp [hq]))
    have hok := h t (by simp)
    have h0 : 0 < t.bytes.length := by
      have := terms_le (ts := [t]) (fun q hq => by simp at hq; rw [hq]; exact hok)
      simp [rend] at this; omega
    have hlen := congrArg List.length hr
    rw [List.length_append, List.length_singleton] at hlen
    have hts : ts = [] := List.eq_nil_of_length_eq_zero (by omega)
    subst hts
    have hr' : t.bytes = [42] := by simpa [rend] using hr
    match t, hok with
    | .star, _ => rfl
    | .one, _ => exact absurd hr' (by decide)
    | .lit true q, ⟨hq, _⟩ => simp [Tm.bytes] at hr'
    | .lit false q, ⟨_, hq⟩ => exact absurd (by simpa [Tm.bytes] using hr') (hq rfl).1
def star1 : ByteArray := ⟨#[42]⟩
set_option maxHeartbeats 4000000 in
set_option maxRecDepth 100000 in
theorem match0_calls (S P : ByteArray) (cs : List (List UInt8)) (ts : List Tm) (w : World) (hT : Lib.Utf8Tabs 2 3 w) (hS : S.data.toList = cs.flatten) (hP : P.data.toList = rend ts) (hcs : OkC cs) (hts : OkT ts) (h1 : S.size ≤ 140737488351232) (h2 : P.size ≤ 140737488351232) :
    Calls Tryd.prog 45 #[.string S, .string P, .bool false] w (MAns cs ts w) := by
  by_cases hp : P = ⟨#[42]⟩
  · have hf : Fit ts cs := by rw [rend_star hts (by rw [← hP, hp])]; exact fit_star_all _
    have HF := Aside0.mk hf
    subst hp
    clear hf hP hS hT
    go_enter Tryd.func45, Tryd.ntmps45
    go_wp2_with fail
    all_goals go_ret
    all_goals exact ⟨true, rfl, ⟨fun _ => HF.out, fun _ => rfl⟩, Below.refl _ _⟩
  · have C := Aside0.mk (match_all (ts.length + 1) ts cs S P w (by omega) hT hS hP hcs hts h1 h2)
    have hne : (P.toList == [42]) = false := by
      rw [Lib.toList_data]
      simp only [beq_eq_false_iff_ne, ne_eq]
      exact fun h => hp (Go.WideShapes.bytes_inj (b := ⟨#[42]⟩) h)
    clear hS hP hcs hts hT
    go_enter Tryd.func45, Tryd.ntmps45
    go_wp2_with (go_at_call 65; refine C.out.mono ?_; rintro e w1 ⟨b, rfl, h3, hb⟩)
    all_goals go_ret
    all_goals first
      | exact ⟨true, rfl, ⟨⟨fun _ => h3.1 (by assumption), fun _ => rfl⟩⟩, hb⟩
      | exact ⟨false, rfl, ⟨⟨fun h => by (try simp at h), fun h => absurd (h3.2 h) (by assumption)⟩⟩, hb⟩
set_option maxHeartbeats 4000000 in
set_option maxRecDepth 100000 in
theorem mt_calls (S P : ByteArray) (cs : List (List UInt8)) (ts : List Tm) (w : World) (hT : Lib.Utf8Tabs 2 3 w) (hS : S.data.toList = cs.flatten) (hP : P.data.toList = rend ts) (hcs : OkC cs) (hts : OkT ts) (h1 : S.size ≤ 140737488351232) (h2 : P.size ≤ 140737488351232) :
    Calls Tryd.prog 12 #[.string S, .string P] w (MAns cs ts w) := by
  have C := Aside0.mk (match0_calls S P cs ts w hT hS hP hcs hts h1 h2)
  have D : Calls Tryd.prog 29 #[.string S, .string P] w (MAns cs ts w) := by
    clear hT hS hP hcs hts
    go_enter Tryd.func29, Tryd.ntmps29
    go_wp2_with (go_at_call 45; refine C.out.mono ?_; rintro e w1 ⟨b, rfl, h3, hb⟩)
    go_ret
    exact ⟨b, rfl, h3, hb⟩
  have D := Aside0.mk D
  clear hT hS hP hcs hts
  go_enter Tryd.func12, Tryd.ntmps12
  go_wp2_with (go_at_call 29; refine D.out.mono ?_; rintro e w1 ⟨b, rfl, h3, hb⟩)
  go_ret
  exact ⟨b, rfl, h3, hb⟩
end Go.Proofs.YtiecdhkmlpceoaaDoor.G
