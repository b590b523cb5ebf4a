/- jsonparser's ArrayEach, unescape and searchKeys as plain functions. -/
import Derived.Test.YtpahejmkidhhhaaDoorGvJg
import Derived.Lib.AtoiAll
import Derived.Lib.RuneBytes
import Derived.Test.YtpahejmkidhhhaaDoorWWords
namespace Go.Proofs.YtpahejmkidhhhaaDoor.G
set_option linter.unusedVariables false
set_option linter.unusedSimpArgs false
open Go.Proofs.YtpahejmkidhhhaaDoorW.PrintWords

theorem gt_bound {xs : List Int} {o : Nat} (h : o < xs.length) : (gt xs o).vb = o ∧ (gt xs o).ve ≤ xs.length ∧ ((gt xs o).er = 0 → o ≤ (gt xs o).ve ∧ ((gt xs o).kind ≠ 2 → o < (gt xs o).ve) ∧ ((gt xs o).kind = 1 → o + 2 ≤ (gt xs o).ve)) ∧ ((gt xs o).er ≠ 0 → (gt xs o).ve = o) ∧ (gt xs o).er ≤ 6 ∧ (gt xs o).er ≠ 1 ∧ (gt xs o).er ≠ 3 := by
  have ht := te_le (xs.drop o)
  rw [List.length_drop] at ht
  unfold gt
  split
  · split
    · simp; omega
    · rename_i h1
      rcases se_bound (xs.drop (o + 1)) with h2 | ⟨j, h2, h3, h4⟩
      · contradiction
      · rw [List.length_drop] at h3
        rw [h4]; simp; omega
  · split
    · split
      · simp; omega
      · rename_i h1
        rcases blkAt_bound 91 93 (xs.drop o) with h2 | ⟨j, h2, h3, h4⟩
        · contradiction
        · rw [List.length_drop] at h3
          rw [h4]; simp; omega
    · split
      · split
        · simp; omega
        · rename_i h1
          rcases blkAt_bound 123 125 (xs.drop o) with h2 | ⟨j, h2, h3, h4⟩
          · contradiction
          · rw [List.length_drop] at h3
            rw [h4]; simp; omega
      · split
        · split
          · rename_i h1
            have : te (xs.drop o) ≠ 0 := by
              intro h0
              rw [h0] at h1
              simp [wtrue, wfalse] at h1
            simp; omega
          · simp; omega
        · split
          · split
            · rename_i h1
              have : te (xs.drop o) ≠ 0 := by
                intro h0
                rw [h0] at h1
                simp [wnull] at h1
              simp; omega
            · simp; omega
          · split
            · simp; omega
            · simp; omega
/-- What Get tells of a text, without keys: the kind, the value's bytes (a string's without its quotation marks), the offset behind it, the error. -/
structure Gi where
  kind : Int
  vb : Nat
  ve : Nat
  en : Int
  er : Nat
def gi (l : List Int) : Gi :=
  if bl l = l.length then ⟨0, 0, 0, -1, 3⟩
  else if (gt l (bl l)).er = 0 then
    if (gt l (bl l)).kind = 1 then ⟨1, bl l + 1, (gt l (bl l)).ve - 1, (gt l (bl l)).ve, 0⟩ else ⟨(gt l (bl l)).kind, bl l, (gt l (bl l)).ve, (gt l (bl l)).ve, 0⟩
  else ⟨(gt l (bl l)).kind, 0, 0, bl l, (gt l (bl l)).er⟩
/-- One call of ArrayEach's function: kind, value (its bytes), offset, error. -/
structure Cl where
  kind : Int
  vb : Nat
  ve : Nat
  off : Int
  er : Nat
def clOf (off : Nat) (g : Gi) : Cl := if g.er = 0 then ⟨g.kind, off + g.vb, off + g.ve, off + g.en - (g.ve - g.vb : Nat), 0⟩ else ⟨g.kind, 0, 0, off + g.en, g.er⟩
/-- The elements from a place on: the calls, the offset that is given, the error. -/
def aeL (l : List Int) : Nat → Nat → List Cl × Nat × Nat
  | 0, off => ([], off, 5)
  | f + 1, off =>
    let g := gi (l.drop off)
    if g.en = 0 then ([], off, g.er)
    else if g.er ≠ 0 then ([clOf off g], off, g.er)
    else
      let p := off + g.en.toNat
      let q := p + bl (l.drop p)
      if q = l.length then ([clOf off g], p, 5)
      else if l.getD q 0 = 93 then ([clOf off g], q, 0)
      else if l.getD q 0 ≠ 44 then ([clOf off g], q, 5)
      else (clOf off g :: (aeL l f (q + 1)).1, (aeL l f (q + 1)).2)
theorem gi_bound (l : List Int) : (gi l).vb ≤ (gi l).ve ∧ (gi l).ve ≤ l.length ∧ (gi l).er ≠ 1 ∧ (gi l).er ≤ 6 ∧
    ((gi l).er = 0 → (0 ≤ (gi l).en ∧ ((gi l).ve : Int) ≤ (gi l).en ∧ (gi l).en ≤ l.length ∧ bl l < l.length ∧ bl l ≤ (gi l).vb)) ∧ ((gi l).er ≠ 0 → (gi l).vb = 0 ∧ (gi l).ve = 0 ∧ -1 ≤ (gi l).en ∧ (gi l).en < max 1 l.length) := by
  have hb := bl_le l
  unfold gi
  by_cases h : bl l = l.length
  · rw [if_pos h]; simp; omega
  · rw [if_neg h]
    obtain ⟨h1, h2, h3, h4, h5, h6, h7⟩ := gt_bound (xs := l) (o := bl l) (by omega)
    by_cases h8 : (gt l (bl l)).er = 0
    · rw [if_pos h8]
      have h9 := h3 h8
      by_cases h10 : (gt l (bl l)).kind = 1
      · rw [if_pos h10]; have := h9.2.2 h10; simp; omega
      · rw [if_neg h10]; simp; omega
    · rw [if_neg h8]; simp; omega
/-- ArrayEach's calls, without keys; its offset and error. -/
def aeW (l : List Int) : List Cl × Int × Nat :=
  if l = [] then ([], -1, 6)
  else if bl l = l.length then ([], -1, 3)
  else if l.getD (bl l) 0 ≠ 91 then ([], -1, 5)
  else
    let q := bl l + 1 + bl (l.drop (bl l + 1))
    if q = l.length then ([], ((bl l + 1 : Nat) : Int), 3)
    else if l.getD q 0 = 93 then ([], (q : Int), 0)
    else ((aeL l (l.length + 1) q).1, ((aeL l (l.length + 1) q).2.1 : Int), (aeL l (l.length + 1) q).2.2)
def aeA (l : List Int) : List Cl := (aeW l).1
/-! ### unescape -/
def hexv (c : Int) : Int := if 48 ≤ c ∧ c ≤ 57 then c - 48 else if 65 ≤ c ∧ c ≤ 70 then c - 55 else if 97 ≤ c ∧ c ≤ 102 then c - 87 else -1
/-- The number of the escape \uXXXX that begins the bytes (its first two are not looked at). -/
def su (l : List Int) : Option Int :=
  if l.length < 6 then none
  else if hexv (l.getD 2 0) = -1 ∨ hexv (l.getD 3 0) = -1 ∨ hexv (l.getD 4 0) = -1 ∨ hexv (l.getD 5 0) = -1 then none
  else some (hexv (l.getD 2 0) * 4096 + hexv (l.getD 3 0) * 256 + hexv (l.getD 4 0) * 16 + hexv (l.getD 5 0))
def du (l : List Int) : Option (Int × Nat) :=
  match su l with
  | none => none
  | some r =>
    if ¬ (55296 ≤ r ∧ r ≤ 57343) then some (r, 6)
    else if 56320 ≤ r then some (65533, 6)
    else if l.length < 8 ∨ l.getD 6 0 ≠ 92 ∨ l.getD 7 0 ≠ 117 then some (65533, 6)
    else match su (l.drop 6) with
      | none => none
      | some s => if s < 56320 ∨ 57343 < s then some (65533, 6) else some (65536 + (r - 55296) * 1024 + (s - 56320), 12)
/-- A character's bytes. -/
def u8 (r : Int) : List Int := Lib.encodeRuneZ r
def shortc (c : Int) : Int := if c = 98 then 8 else if c = 102 then 12 else if c = 110 then 10 else if c = 114 then 13 else if c = 116 then 9 else c
/-- The escape that begins the bytes: how long it is, and what it stands for. -/
def e1 (l : List Int) : Option (Nat × List Int) :=
  if l.length < 2 then none
  else if isEs (l.getD 1 0) = true then some (2, [shortc (l.getD 1 0)])
  else if l.getD 1 0 = 117 then (du l).map fun r => (r.2, u8 r.1)
  else none
def ueF : Nat → List Int → Option (List Int)
  | 0, _ => some []
  | _ + 1, [] => some []
  | f + 1, c :: l =>
    if c = 92 then match e1 (c :: l) with
      | none => none
      | some (n, bs) => (ueF f ((c :: l).drop n)).map (bs ++ ·)
    else (ueF f l).map (c :: ·)
theorem e1_le {l : List Int} {n : Nat} {bs : List Int} (h : e1 l = some (n, bs)) : 2 ≤ n ∧ n ≤ l.length ∧ 1 ≤ bs.length ∧ bs.length ≤ 4 ∧ bs.length ≤ n := by
  unfold e1 at h
  by_cases h0 : l.length < 2
  · rw [if_pos h0] at h; cases h
  · rw [if_neg h0] at h
    by_cases h1 : isEs (l.getD 1 0) = true
    · rw [if_pos h1] at h; cases h; simp; omega
    · rw [if_neg h1] at h
      by_cases h2 : l.getD 1 0 = 117
      · rw [if_pos h2] at h
        have hu : ∀ r : Int, 1 ≤ (u8 r).length ∧ (u8 r).length ≤ 4 := by
          intro r
          have := Lib.runeCells_le r
          unfold Lib.runeCells at this
          rw [List.length_map] at this
          exact this
        cases hd : du l with
        | none => rw [hd] at h; cases h
        | some rn =>
          obtain ⟨r, m⟩ := rn
          rw [hd] at h
          simp only [Option.map_some, Option.some.injEq, Prod.mk.injEq] at h
          obtain ⟨rfl, rfl⟩ := h
          have h3 := hu r
          unfold du at hd
          cases hs : su l with
          | none => rw [hs] at hd; cases hd
          | some a =>
            rw [hs] at hd
            have h6 : 6 ≤ l.length := by
              unfold su at hs
              by_cases h6 : l.length < 6
              · rw [if_pos h6] at hs; cases hs
              · omega
            simp only [] at hd
            split at hd
            · cases hd; omega
            · split at hd
              · cases hd; omega
              · split at hd
                · cases hd; omega
                · cases hs2 : su (l.drop 6) with
                  | none => rw [hs2] at hd; cases hd
                  | some b =>
                    rw [hs2] at hd
                    have h12 : 12 ≤ l.length := by
                      unfold su at hs2
                      rw [List.length_drop] at hs2
                      by_cases h6 : l.length - 6 < 6
                      · rw [if_pos h6] at hs2; cases hs2
                      · omega
                    simp only [] at hd
                    split at hd
                    · cases hd; omega
                    · cases hd; omega
      · rw [if_neg h2] at h; cases h
theorem ueF_fuel : ∀ (f g : Nat) (l : List Int), l.length ≤ f → l.length ≤ g → ueF f l = ueF g l
  | f, g, [], _, _ => by cases f <;> cases g <;> rfl
  | 0, _, _ :: _, h, _ => by simp at h
  | _ + 1, 0, _ :: _, _, h => by simp at h
  | f + 1, g + 1, c :: l, hf, hg => by
    simp only [List.length_cons] at hf hg
    rw [ueF, ueF]
    by_cases h : c = 92
    · rw [if_pos h, if_pos h]
      cases he : e1 (c :: l) with
      | none => rfl
      | some r =>
        obtain ⟨n, bs⟩ := r
        have hn := e1_le he
        simp only []
        rw [ueF_fuel f g _ (by rw [List.length_drop, List.length_cons]; omega) (by rw [List.length_drop, List.length_cons]; omega)]
    · rw [if_neg h, if_neg h, ueF_fuel f g l (by omega) (by omega)]
def ue (l : List Int) : Option (List Int) := ueF l.length l
theorem ue_nil : ue [] = some [] := rfl
theorem ue_other {c : Int} {l : List Int} (h : c ≠ 92) : ue (c :: l) = (ue l).map (c :: ·) := by
  unfold ue
  rw [List.length_cons, ueF, if_neg h]
theorem ue_esc {c : Int} {l : List Int} (h : c = 92) : ue (c :: l) = match e1 (c :: l) with | none => none | some (n, bs) => (ue ((c :: l).drop n)).map (bs ++ ·) := by
  unfold ue
  rw [List.length_cons, ueF, if_pos h]
  cases he : e1 (c :: l) with
  | none => rfl
  | some r =>
    obtain ⟨n, bs⟩ := r
    have hn := e1_le he
    simp only []
    rw [ueF_fuel l.length ((c :: l).drop n).length _ (by rw [List.length_drop, List.length_cons]; omega) (Nat.le_refl _)]
theorem ue_run : ∀ (k : Nat) {l : List Int}, (∀ x ∈ l.take k, x ≠ 92) → k ≤ l.length → ue l = (ue (l.drop k)).map (l.take k ++ ·)
  | 0, l, _, _ => by simp
  | k + 1, [], _, h => by simp at h
  | k + 1, c :: l, h, hk => by
    rw [ue_other (h c (by simp)), ue_run k (fun x hx => h x (by simp [hx])) (by simpa using hk), List.drop_succ_cons, List.take_succ_cons, Option.map_map]
    rfl
/-! ### searchKeys -/
/-- What a key "[n]" asks for. -/
def kix (s : ByteArray) : Option Int :=
  if s.size < 3 ∨ (bytesOf s).getD (s.size - 1) 0 ≠ 93 then none
  else match Lib.atoiAll (s.extract 1 (s.size - 1)).data.toList with
    | .ok v => some v
    | _ => none
/-- A step of the search: it ends, or goes on. -/
inductive Sr where
  | done (r : Int)
  | go (i : Nat) (lv kl : Int) (lm : Bool)
/-- The call of the element with an index. -/
def pick (cs : List Cl) (v : Int) : Option Cl := if v < 0 then none else cs[v.toNat]?
def skA (sub : List ByteArray → List Int → Int) (K : List ByteArray) (xs : List Int) (i : Nat) (lv : Int) : Int :=
  match kix (K.getD lv.toNat ByteArray.empty) with
  | none => -1
  | some v => match pick (aeA (xs.drop i)) v with
    | none => -1
    | some c =>
      if c.kind = 1 then
        if sub (K.drop (lv.toNat + 1)) (((xs.drop i).drop (c.off - 2).toNat).take (c.ve - c.vb + 2)) < 0 then -1
        else (i : Int) + (c.off - 2) + sub (K.drop (lv.toNat + 1)) (((xs.drop i).drop (c.off - 2).toNat).take (c.ve - c.vb + 2))
      else if c.er ≠ 0 then -1
      else if sub (K.drop (lv.toNat + 1)) (((xs.drop i).drop c.vb).take (c.ve - c.vb)) < 0 then -1
        else (i : Int) + c.off + sub (K.drop (lv.toNat + 1)) (((xs.drop i).drop c.vb).take (c.ve - c.vb))
def isIx (s : ByteArray) : Bool := decide (0 < s.size) && ((bytesOf s).getD 0 0 == 91)
def skS (sub : List ByteArray → List Int → Int) (K : List ByteArray) (xs : List Int) (i : Nat) (lv kl : Int) (lm : Bool) : Sr :=
  let c := xs.getD i 0
  if c = 34 then
    let r := seAt (xs.drop (i + 1)) 0 false
    if r.1 = -1 then .done (-1)
    else
      let j := i + 1 + r.1.toNat
      let z := j + bl (xs.drop j)
      if z = xs.length then .done (-1)
      else if xs.getD z 0 = 58 then
        if lv < 1 then .done (-1)
        else match (if r.2 then ue ((xs.drop (i + 1)).take (r.1.toNat - 1)) else some ((xs.drop (i + 1)).take (r.1.toNat - 1))) with
          | none => .done (-1)
          | some ku =>
            if lv ≤ K.length then
              if ku = bytesOf (K.getD (lv.toNat - 1) ByteArray.empty) then
                if kl = lv - 1 then (if kl + 1 = K.length then .done (z + 1) else .go (z + 1) lv (kl + 1) true)
                else .go (z + 1) lv kl true
              else .go (z + 1) lv kl false
            else .done (-1)
      else .go z lv kl lm
  else if c = 123 then
    if lm then .go (i + 1) (lv + 1) kl lm
    else if blkAt 123 125 (xs.drop i) 0 0 = -1 then .done (-1) else .go (i + (blkAt 123 125 (xs.drop i) 0 0).toNat) lv kl lm
  else if c = 125 then .go (i + 1) (lv - 1) (if lv - 1 = kl then kl - 1 else kl) lm
  else if c = 91 then
    if kl = lv ∧ isIx (K.getD lv.toNat ByteArray.empty) = true then .done (skA sub K xs i lv)
    else if blkAt 91 93 (xs.drop i) 0 0 = -1 then .done (-1) else .go (i + (blkAt 91 93 (xs.drop i) 0 0).toNat) lv kl lm
  else if c = 58 then .done (-1)
  else .go (i + 1) lv kl lm
theorem skS_lt {sub : List ByteArray → List Int → Int} {K : List ByteArray} {xs : List Int} {i i' : Nat} {lv kl lv' kl' : Int} {lm lm' : Bool} (hi : i < xs.length) (h : skS sub K xs i lv kl lm = .go i' lv' kl' lm') : i < i' ∧ i' ≤ xs.length := by
  unfold skS at h
  simp only [] at h
  split at h
  · rcases se_bound (xs.drop (i + 1)) with h1 | ⟨j, h1, h2, h3⟩
    · rw [if_pos h1] at h; cases h
    · rw [List.length_drop] at h2
      rw [if_neg (by rw [h3]; omega)] at h
      rw [h3, Int.toNat_natCast] at h
      have hb := bl_le (xs.drop (i + 1 + j))
      rw [List.length_drop] at hb
      split at h
      · cases h
      · split at h
        · split at h
          · cases h
          · split at h
            · cases h
            · split at h
              · split at h
                · split at h
                  · split at h
                    · cases h
                    · cases h; omega
                  · cases h; omega
                · cases h; omega
              · cases h
        · cases h; omega
  · split at h
    · split at h
      · cases h; omega
      · rcases blkAt_bound 123 125 (xs.drop i) with h1 | ⟨j, h1, h2, h3⟩
        · rw [if_pos h1] at h; cases h
        · rw [List.length_drop] at h2
          rw [if_neg (by rw [h3]; omega), h3, Int.toNat_natCast] at h
          cases h; omega
    · split at h
      · cases h; omega
      · split at h
        · split at h
          · cases h
          · rcases blkAt_bound 91 93 (xs.drop i) with h1 | ⟨j, h1, h2, h3⟩
            · rw [if_pos h1] at h; cases h
            · rw [List.length_drop] at h2
              rw [if_neg (by rw [h3]; omega), h3, Int.toNat_natCast] at h
              cases h; omega
        · split at h
          · cases h
          · cases h; omega
def skL (sub : List ByteArray → List Int → Int) (K : List ByteArray) (xs : List Int) : Nat → Nat → Int → Int → Bool → Int
  | 0, _, _, _, _ => -1
  | f + 1, i, lv, kl, lm => if i < xs.length then match skS sub K xs i lv kl lm with
      | .done r => r
      | .go i' lv' kl' lm' => skL sub K xs f i' lv' kl' lm'
    else -1
theorem skL_fuel {sub : List ByteArray → List Int → Int} {K : List ByteArray} {xs : List Int} : ∀ (f g i : Nat) (lv kl : Int) (lm : Bool), xs.length - i < f → xs.length - i < g → skL sub K xs f i lv kl lm = skL sub K xs g i lv kl lm
  | 0, _, _, _, _, _, h, _ => absurd h (Nat.not_lt_zero _)
  | _ + 1, 0, _, _, _, _, _, h => absurd h (Nat.not_lt_zero _)
  | f + 1, g + 1, i, lv, kl, lm, hf, hg => by
    rw [skL, skL]
    by_cases h : i < xs.length
    · rw [if_pos h, if_pos h]
      cases hs : skS sub K xs i lv kl lm with
      | done r => rfl
      | go i' lv' kl' lm' =>
        have := skS_lt h hs
        simp only []
        exact skL_fuel f g _ _ _ _ (by omega) (by omega)
    · rw [if_neg h, if_neg h]
/-- The search from a place on. -/
def skR (sub : List ByteArray → List Int → Int) (K : List ByteArray) (xs : List Int) (i : Nat) (lv kl : Int) (lm : Bool) : Int := skL sub K xs (xs.length - i + 1) i lv kl lm
theorem skR_end {sub : List ByteArray → List Int → Int} {K : List ByteArray} {xs : List Int} {i : Nat} {lv kl : Int} {lm : Bool} (h : ¬ i < xs.length) : skR sub K xs i lv kl lm = -1 := by
  unfold skR; rw [skL, if_neg h]
theorem skR_done {sub : List ByteArray → List Int → Int} {K : List ByteArray} {xs : List Int} {i : Nat} {lv kl : Int} {lm : Bool} {r : Int} (h : i < xs.length) (hs : skS sub K xs i lv kl lm = .done r) : skR sub K xs i lv kl lm = r := by
  unfold skR; rw [skL, if_pos h, hs]
theorem skR_go {sub : List ByteArray → List Int → Int} {K : List ByteArray} {xs : List Int} {i i' : Nat} {lv kl lv' kl' : Int} {lm lm' : Bool} (h : i < xs.length) (hs : skS sub K xs i lv kl lm = .go i' lv' kl' lm') : skR sub K xs i lv kl lm = skR sub K xs i' lv' kl' lm' := by
  have := skS_lt h hs
  unfold skR; rw [skL, if_pos h, hs]
  exact skL_fuel _ _ _ _ _ _ (by omega) (by omega)
/-- searchKeys. -/
def skN : Nat → List ByteArray → List Int → Int
  | 0, _, _ => 0
  | n + 1, K, xs => if K = [] then 0 else skR (skN n) K xs 0 0 0 true
def sks (K : List ByteArray) (xs : List Int) : Int := skN K.length K xs
end Go.Proofs.YtpahejmkidhhhaaDoor.G
