/- JSON texts joined by commas, in brackets; members likewise, in braces. -/
import Derived.Test.YtiecdhkmlpceoaaDoorGvJa
namespace Go.Proofs.YtiecdhkmlpceoaaDoor.G
set_option linter.unusedVariables false
set_option linter.unusedSimpArgs false

/-- A JSON text. -/
def jT (l : List Int) : Prop := (J l).isSome = true
theorem jT_iff {t : List Int} : jT t ↔ ∃ k, vl 0 (t.drop (bl t)) = some k ∧ bl t + k + bl (t.drop (bl t + k)) = t.length := by
  unfold jT J
  rw [show vl 0 (t.drop (bl t)) = vl (bl t) (t.drop (bl t)) from vl_any _ _ _]
  unfold vl
  cases V (bl t) (t.drop (bl t)) with
  | none => simp
  | some r =>
    simp only [Option.map_some, Option.some.injEq]
    constructor
    · intro h
      by_cases h1 : bl t + r.2 + bl (t.drop (bl t + r.2)) = t.length
      · exact ⟨_, rfl, h1⟩
      · rw [if_neg h1] at h; cases h
    · rintro ⟨k, rfl, h⟩
      rw [if_pos h]; rfl
theorem el_any (a a' : Nat) (l : List Int) : el a l = el a' l := by
  cases h : el a l with
  | some k => have := (ext_all l.length).2.1 a a' l [] k (Nat.le_refl _) h; rw [List.append_nil] at this; exact this.symm
  | none =>
    cases h' : el a' l with
    | none => rfl
    | some k => have := (ext_all l.length).2.1 a' a l [] k (Nat.le_refl _) h'; rw [List.append_nil, h] at this; cases this
theorem ml_any (a a' : Nat) (l : List Int) : ml a l = ml a' l := by
  cases h : ml a l with
  | some k => have := (ext_all l.length).2.2 a a' l [] k (Nat.le_refl _) h; rw [List.append_nil] at this; exact this.symm
  | none =>
    cases h' : ml a' l with
    | none => rfl
    | some k => have := (ext_all l.length).2.2 a' a l [] k (Nat.le_refl _) h'; rw [List.append_nil, h] at this; cases this
/-- What stands behind a text here: nothing, a comma, a bracket, a brace. -/
def dz : List Int → Prop
  | [] => True
  | c :: _ => c = 44 ∨ c = 93 ∨ c = 125
theorem dz_dl {x : List Int} (h : dz x) : dl x := by
  match x, h with
  | [], _ => trivial
  | c :: _, h => rcases h with h | h | h; exact .inl h; exact .inr (.inl h); exact .inr (.inr (.inl h))
theorem dz_bl {x : List Int} (h : dz x) : bl x = 0 := by
  match x, h with
  | [], _ => rfl
  | c :: _, h => rcases h with rfl | rfl | rfl <;> rfl
theorem text_pos {t : List Int} (h : jT t) : bl t < t.length := by
  obtain ⟨k, h1, h2⟩ := jT_iff.1 h
  have := vl_le h1
  rw [List.length_drop] at this
  omega
theorem text_then {t y : List Int} (h : jT t) (hy : dz y) (a : Nat) : bl (t ++ y) = bl t ∧ ∃ k, vl a (t.drop (bl t) ++ y) = some k ∧ k + bl ((t.drop (bl t) ++ y).drop k) = t.length - bl t ∧ (t.drop (bl t) ++ y).drop (k + bl ((t.drop (bl t) ++ y).drop k)) = y := by
  obtain ⟨k, h1, h2⟩ := jT_iff.1 h
  have h3 := vl_le h1
  rw [List.length_drop] at h3
  refine ⟨bl_app (by omega), k, vl_ext h1 (.inr (dz_dl hy)), ?_⟩
  have hk : k ≤ (t.drop (bl t)).length := by rw [List.length_drop]; omega
  have hb : bl ((t.drop (bl t) ++ y).drop k) = t.length - bl t - k := by
    rw [drop_app hk, List.drop_drop]
    rw [bl_full (by rw [List.length_drop]; omega) (dz_bl hy), List.length_drop]; omega
  refine ⟨by rw [hb]; omega, ?_⟩
  rw [hb, drop_app (by rw [List.length_drop]; omega), List.drop_eq_nil_of_le (by rw [List.length_drop]; omega), List.nil_append]
theorem first_not {t : List Int} (h : jT t) (y : List Int) {c : Int} (hc : c = 93 ∨ c = 125) : tk c (t.drop (bl t) ++ y) = false := by
  obtain ⟨k, h1, _⟩ := jT_iff.1 h
  have hp := text_pos h
  have hne : t.drop (bl t) ≠ [] := ne_of_len (by rw [List.length_drop]; omega)
  rw [tk_app hne]
  cases ht : tk c (t.drop (bl t)) with
  | false => rfl
  | true =>
    exfalso
    match hl : t.drop (bl t), hne, ht, h1 with
    | x :: r, _, ht, h1 =>
      have hx : x = c := by simpa [tk] using ht
      subst hx
      rw [vl_eq] at h1
      rcases hc with rfl | rfl
      · rw [if_neg (by decide), if_neg (by decide), if_neg (by decide), if_neg (by decide), if_neg (by unfold pre wnull; simp), if_neg (by unfold pre wfalse; simp), if_neg (by unfold pre wtrue; simp)] at h1; cases h1
      · rw [if_neg (by decide), if_neg (by decide), if_neg (by decide), if_neg (by decide), if_neg (by unfold pre wnull; simp), if_neg (by unfold pre wfalse; simp), if_neg (by unfold pre wtrue; simp)] at h1; cases h1
def ljoin : List (List Int) → List Int
  | [] => []
  | [t] => t
  | t :: u :: ts => t ++ 44 :: ljoin (u :: ts)
theorem ljoin_snoc : ∀ {ts : List (List Int)} {t : List Int}, ts ≠ [] → ljoin (ts ++ [t]) = ljoin ts ++ 44 :: t
  | [u], t, _ => rfl
  | u :: v :: ts, t, _ => by
    show u ++ 44 :: ljoin ((v :: ts) ++ [t]) = (u ++ 44 :: ljoin (v :: ts)) ++ 44 :: t
    rw [ljoin_snoc (by simp)]; simp
/-- Elements behind blanks. -/
def eb (l : List Int) : Option Nat := (el 0 (l.drop (bl l))).map (bl l + ·)
theorem eb_join : ∀ {ts : List (List Int)} {z : List Int}, ts ≠ [] → (∀ t ∈ ts, jT t) → (z = [93] ∨ z = []) → eb (ljoin ts ++ z) = if z = [93] then some ((ljoin ts).length + 1) else none
  | [t], z, _, h, hz => by
    have ht := h t (by simp)
    have hdz : dz z := by rcases hz with rfl | rfl; exact .inr (.inl rfl); trivial
    have hp := text_pos ht
    obtain ⟨hb, k, hk, hl, hd⟩ := text_then ht hdz 0
    unfold eb
    show (el 0 ((t ++ z).drop (bl (t ++ z)))).map (bl (t ++ z) + ·) = _
    rw [hb, drop_app (by omega), el_eq, hk]
    simp only []
    rw [hd]
    rcases hz with rfl | rfl
    · rw [if_pos (show tk 93 [93] = true from rfl), if_pos rfl, hl]
      simp only [ljoin, Option.map_some, Option.some.injEq]
      omega
    · rw [if_neg (by decide), if_neg (by simp [tk]), if_neg (by simp [tk])]; rfl
  | t :: u :: ts, z, _, h, hz => by
    have ht := h t (by simp)
    have ih := eb_join (ts := u :: ts) (z := z) (by simp) (fun x hx => h x (by simp [hx])) hz
    have hp := text_pos ht
    obtain ⟨hb, k, hk, hl, hd⟩ := text_then ht (y := 44 :: (ljoin (u :: ts) ++ z)) (.inl rfl) 0
    have e0 : ljoin (t :: u :: ts) ++ z = t ++ 44 :: (ljoin (u :: ts) ++ z) := by simp [ljoin]
    have hlen : (ljoin (t :: u :: ts)).length = t.length + 1 + (ljoin (u :: ts)).length := by simp [ljoin]; omega
    unfold eb
    rw [e0, hb, drop_app (by omega), el_eq, hk]
    simp only []
    have hd1 : (t.drop (bl t) ++ 44 :: (ljoin (u :: ts) ++ z)).drop (k + bl ((t.drop (bl t) ++ 44 :: (ljoin (u :: ts) ++ z)).drop k) + 1) = ljoin (u :: ts) ++ z := by
      rw [← List.drop_drop, hd]; rfl
    rw [hd, hd1, if_neg (by simp [tk]), if_pos (by simp [tk])]
    rw [← List.drop_drop, hd1]
    unfold eb at ih
    rw [el_any _ 0]
    have hle : (ljoin (t :: u :: ts)).length = t.length + 1 + (ljoin (u :: ts)).length := hlen
    rcases hz with rfl | rfl
    · rw [if_pos rfl] at ih ⊢
      cases he : el 0 ((ljoin (u :: ts) ++ [93]).drop (bl (ljoin (u :: ts) ++ [93]))) with
      | none => rw [he] at ih; cases ih
      | some e =>
        rw [he] at ih
        simp only [Option.map_some, Option.some.injEq] at ih ⊢
        omega
    · rw [if_neg (by decide)] at ih ⊢
      cases he : el 0 ((ljoin (u :: ts) ++ []).drop (bl (ljoin (u :: ts) ++ []))) with
      | none => rfl
      | some e => rw [he] at ih; cases ih
theorem list_first {ts : List (List Int)} (hne : ts ≠ []) (h : ∀ t ∈ ts, jT t) (z : List Int) : tk 93 ((ljoin ts ++ z).drop (bl (ljoin ts ++ z))) = false := by
  match ts, hne, h with
  | t :: r, _, h =>
    have ht := h t (by simp)
    have hp := text_pos ht
    obtain ⟨y, hy⟩ : ∃ y, ljoin (t :: r) ++ z = t ++ y := by
      cases r with
      | nil => exact ⟨z, rfl⟩
      | cons u r => exact ⟨44 :: (ljoin (u :: r) ++ z), by simp [ljoin]⟩
    rw [hy, bl_app hp, drop_app (by omega)]
    exact first_not ht y (.inl rfl)
theorem jT_whole {c : Int} {l : List Int} (hc : isBl c = false) : jT (c :: l) ↔ vl 0 (c :: l) = some (l.length + 1) ∨ ∃ k, vl 0 (c :: l) = some k ∧ k + bl ((c :: l).drop k) = l.length + 1 := by
  have hb : bl (c :: l) = 0 := by rw [bl, if_neg (by rw [hc]; decide)]
  rw [jT_iff, hb, List.drop_zero]
  constructor
  · rintro ⟨k, h1, h2⟩
    exact .inr ⟨k, h1, by rw [Nat.zero_add] at h2; simpa using h2⟩
  · rintro (h | ⟨k, h1, h2⟩)
    · refine ⟨_, h, ?_⟩
      rw [Nat.zero_add, List.drop_eq_nil_of_le (by simp)]; simp [bl]
    · exact ⟨k, h1, by rw [Nat.zero_add]; simpa using h2⟩
theorem list_yes {ts : List (List Int)} (h : ∀ t ∈ ts, jT t) : jT (91 :: (ljoin ts ++ [93])) := by
  rw [jT_whole (by decide)]
  left
  rw [vl_eq, if_neg (by decide), if_pos rfl]
  by_cases hne : ts = []
  · subst hne; rfl
  · rw [list_first hne h, if_neg (by decide), el_any _ 0]
    have he := eb_join hne h (z := [93]) (.inl rfl)
    unfold eb at he
    rw [if_pos rfl] at he
    cases hel : el 0 ((ljoin ts ++ [93]).drop (bl (ljoin ts ++ [93]))) with
    | none => rw [hel] at he; cases he
    | some e =>
      rw [hel] at he
      simp only [Option.map_some, Option.some.injEq, List.length_append, List.length_singleton] at he ⊢
      omega
theorem list_no {ts : List (List Int)} (h : ∀ t ∈ ts, jT t) : ¬ jT (91 :: ljoin ts) := by
  have hn : vl 0 (91 :: ljoin ts) = none := by
    rw [vl_eq, if_neg (by decide), if_pos rfl]
    by_cases hne : ts = []
    · subst hne; rfl
    · have hf := list_first hne h []
      have he := eb_join hne h (z := []) (.inr rfl)
      rw [List.append_nil] at hf he
      rw [hf, if_neg (by decide), el_any _ 0]
      unfold eb at he
      rw [if_neg (by decide)] at he
      cases hel : el 0 ((ljoin ts).drop (bl (ljoin ts))) with
      | none => rfl
      | some e => rw [hel] at he; cases he
  rw [jT_whole (by decide), hn]
  rintro (h | ⟨k, h, _⟩) <;> cases h
/-! ### members -/
/-- A name in quotation marks, a colon, a text. -/
def isM (m : List Int) : Prop := ∃ b t, m = 34 :: (b ++ 34 :: 58 :: t) ∧ (∀ x, quo (b ++ x) = (quo x).map (b.length + ·)) ∧ jT t
theorem mem_nam {b t y : List Int} (hb : ∀ x, quo (b ++ x) = (quo x).map (b.length + ·)) : nam (34 :: (b ++ 34 :: 58 :: (t ++ y))) = some (b.length + 2, b.length + 3 + bl (t ++ y)) := by
  unfold nam
  rw [if_pos (by simp [tk])]
  simp only [List.drop_succ_cons, List.drop_zero]
  rw [hb, quo_c, if_pos rfl]
  simp only [Option.map_some]
  have e1 : (34 :: (b ++ 34 :: 58 :: (t ++ y)) : List Int).drop (1 + (b.length + 1)) = 58 :: (t ++ y) := by
    rw [show 1 + (b.length + 1) = (b.length + 1) + 1 by omega, List.drop_succ_cons, ← List.drop_drop, List.drop_left]; rfl
  have e2 : bl (58 :: (t ++ y)) = 0 := rfl
  have e3 : (34 :: (b ++ 34 :: 58 :: (t ++ y)) : List Int).drop (1 + (b.length + 1) + 0 + 1) = t ++ y := by
    rw [Nat.add_zero, ← List.drop_drop, e1]; rfl
  rw [e1, e2, Nat.add_zero, e1, if_pos (by simp [tk])]
  rw [Nat.add_zero] at e3
  rw [List.drop_succ_cons] at e3
  rw [e3]
  congr 1
  rw [Prod.mk.injEq]
  constructor <;> omega
theorem mem_then {m y : List Int} (h : isM m) (hy : dz y) (a : Nat) : ml a (m ++ y) = if tk 125 y then some (m.length + 1) else if tk 44 y then (ml (a + (m.length + 1 + bl (y.drop 1))) ((y.drop 1).drop (bl (y.drop 1)))).map (m.length + 1 + bl (y.drop 1) + ·) else none := by
  obtain ⟨b, t, rfl, hb, ht⟩ := h
  have hp := text_pos ht
  obtain ⟨h1, k, hk, hl, hd⟩ := text_then ht hy (a + (b.length + 3 + bl t))
  have e0 : (34 :: (b ++ 34 :: 58 :: t)) ++ y = 34 :: (b ++ 34 :: 58 :: (t ++ y)) := by simp
  have ed : (34 :: (b ++ 34 :: 58 :: (t ++ y)) : List Int).drop (b.length + 3 + bl t) = t.drop (bl t) ++ y := by
    rw [show b.length + 3 + bl t = (b.length + 2 + bl t) + 1 by omega, List.drop_succ_cons, show b.length + 2 + bl t = b.length + (2 + bl t) by omega, ← List.drop_drop, List.drop_left]
    rw [show 2 + bl t = bl t + 1 + 1 by omega, List.drop_succ_cons, List.drop_succ_cons, drop_app (by omega)]
  have hlen : (34 :: (b ++ 34 :: 58 :: t) : List Int).length = b.length + 3 + t.length := by simp; omega
  rw [e0, ml_eq, mem_nam hb, h1]
  simp only []
  rw [ed, hk]
  simp only []
  have ek : ∀ j, (34 :: (b ++ 34 :: 58 :: (t ++ y)) : List Int).drop (b.length + 3 + bl t + j) = (t.drop (bl t) ++ y).drop j := fun j => by rw [← List.drop_drop, ed]
  rw [ek]
  have e4 : b.length + 3 + bl t + k + bl ((t.drop (bl t) ++ y).drop k) = b.length + 3 + bl t + (k + bl ((t.drop (bl t) ++ y).drop k)) := by omega
  rw [e4, ek, hd, hlen, hl]
  have e5 : b.length + 3 + bl t + (t.length - bl t) = b.length + 3 + t.length := by omega
  rw [e5]
  have e6 : (34 :: (b ++ 34 :: 58 :: (t ++ y)) : List Int).drop (b.length + 3 + t.length + 1) = y.drop 1 := by
    rw [← e5, show b.length + 3 + bl t + (t.length - bl t) + 1 = b.length + 3 + bl t + ((t.length - bl t) + 1) by omega, ek, ← hl, ← List.drop_drop, hd]
  rw [e6, ← List.drop_drop, e6]
theorem mb_join : ∀ {ms : List (List Int)} {z : List Int}, ms ≠ [] → (∀ m ∈ ms, isM m) → (z = [125] ∨ z = []) → ml 0 (ljoin ms ++ z) = if z = [125] then some ((ljoin ms).length + 1) else none
  | [m], z, _, h, hz => by
    have hm := h m (by simp)
    have hdz : dz z := by rcases hz with rfl | rfl; exact .inr (.inr rfl); trivial
    show ml 0 (m ++ z) = _
    rw [mem_then hm hdz]
    rcases hz with rfl | rfl
    · rw [if_pos (by simp [tk]), if_pos rfl]; rfl
    · rw [if_neg (by simp [tk]), if_neg (by simp [tk]), if_neg (by decide)]
  | m :: u :: ms, z, _, h, hz => by
    have hm := h m (by simp)
    have hu := h u (by simp)
    have ih := mb_join (ms := u :: ms) (z := z) (by simp) (fun x hx => h x (by simp [hx])) hz
    have e0 : ljoin (m :: u :: ms) ++ z = m ++ 44 :: (ljoin (u :: ms) ++ z) := by simp [ljoin]
    have hlen : (ljoin (m :: u :: ms)).length = m.length + 1 + (ljoin (u :: ms)).length := by simp [ljoin]; omega
    have hb : bl (ljoin (u :: ms) ++ z) = 0 := by
      obtain ⟨b, t, hu1, _⟩ := hu
      cases ms with
      | nil => show bl (u ++ z) = 0; rw [hu1]; rfl
      | cons v ms => show bl ((u ++ 44 :: ljoin (v :: ms)) ++ z) = 0; rw [hu1]; rfl
    have hd44 : dz (44 :: (ljoin (u :: ms) ++ z)) := .inl rfl
    rw [e0, mem_then hm hd44, if_neg (by simp [tk]), if_pos (by simp [tk])]
    simp only [List.drop_succ_cons, List.drop_zero]
    rw [hb, List.drop_zero, ml_any _ 0, ih]
    rcases hz with rfl | rfl
    · rw [if_pos rfl, if_pos rfl]
      simp only [Option.map_some, Option.some.injEq]
      omega
    · rw [if_neg (by decide), if_neg (by decide)]; rfl
theorem obj_first {ms : List (List Int)} (hne : ms ≠ []) (h : ∀ m ∈ ms, isM m) (z : List Int) : bl (ljoin ms ++ z) = 0 ∧ tk 125 (ljoin ms ++ z) = false := by
  match ms, hne, h with
  | u :: r, _, h =>
    obtain ⟨b, t, hu1, _⟩ := h u (by simp)
    cases r with
    | nil => show bl (u ++ z) = 0 ∧ tk 125 (u ++ z) = false; rw [hu1]; exact ⟨rfl, rfl⟩
    | cons v r => show bl ((u ++ 44 :: ljoin (v :: r)) ++ z) = 0 ∧ tk 125 ((u ++ 44 :: ljoin (v :: r)) ++ z) = false; rw [hu1]; exact ⟨rfl, rfl⟩
theorem obj_yes {ms : List (List Int)} (h : ∀ m ∈ ms, isM m) : jT (123 :: (ljoin ms ++ [125])) := by
  rw [jT_whole (by decide)]
  left
  rw [vl_eq, if_pos rfl]
  by_cases hne : ms = []
  · subst hne; rfl
  · obtain ⟨h1, h2⟩ := obj_first hne h [125]
    rw [h1, List.drop_zero, h2, if_neg (by decide), ml_any _ 0, mb_join hne h (.inl rfl), if_pos rfl]
    simp only [Option.map_some, Option.some.injEq, List.length_append, List.length_singleton]
    omega
theorem obj_no {ms : List (List Int)} (h : ∀ m ∈ ms, isM m) : ¬ jT (123 :: ljoin ms) := by
  have hn : vl 0 (123 :: ljoin ms) = none := by
    rw [vl_eq, if_pos rfl]
    by_cases hne : ms = []
    · subst hne; rfl
    · obtain ⟨h1, h2⟩ := obj_first hne h []
      have he := mb_join hne h (z := []) (.inr rfl)
      rw [List.append_nil] at h1 h2 he
      rw [h1, List.drop_zero, h2, if_neg (by decide), ml_any _ 0, he, if_neg (by decide)]; rfl
  rw [jT_whole (by decide), hn]
  rintro (h | ⟨k, h, _⟩) <;> cases h
end Go.Proofs.YtiecdhkmlpceoaaDoor.G
