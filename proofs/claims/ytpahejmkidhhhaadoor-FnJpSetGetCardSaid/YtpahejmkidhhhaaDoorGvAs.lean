/- searchKeys, step by step (plain). -/
import Derived.Test.YtpahejmkidhhhaaDoorGvJs
namespace Go.Proofs.YtpahejmkidhhhaaDoor.G
set_option linter.unusedVariables false
set_option linter.unusedSimpArgs false
open Go.Proofs.YtpahejmkidhhhaaDoorW.PrintWords

section
variable {sub : List ByteArray → List Int → Int} {K : List ByteArray} {xs : List Int} {m j z : Nat} {lv kl : Int} {lm e : Bool} {x : Int} {ku : List Int}
theorem sk_white (h : m < xs.length) (hx : x = xs.getD m 0) (h1 : x ≠ 34) (h2 : x ≠ 123) (h3 : x ≠ 125) (h4 : x ≠ 91) (h5 : x ≠ 58) : skR sub K xs m lv kl lm = skR sub K xs (m + 1) lv kl lm := by
  refine skR_go h ?_
  unfold skS; simp only []; rw [← hx, if_neg h1, if_neg h2, if_neg h3, if_neg h4, if_neg h5]
theorem sk_close (h : m < xs.length) (hx : x = xs.getD m 0) (h1 : x = 125) : skR sub K xs m lv kl lm = skR sub K xs (m + 1) (lv - 1) (if lv - 1 = kl then kl - 1 else kl) lm := by
  refine skR_go h ?_
  unfold skS; simp only []; rw [← hx, h1, if_neg (by decide), if_neg (by decide), if_pos rfl]
theorem sk_open (h : m < xs.length) (hx : x = xs.getD m 0) (h1 : x = 123) : skR sub K xs m lv kl true = skR sub K xs (m + 1) (lv + 1) kl true := by
  refine skR_go h ?_
  unfold skS; simp only []; rw [← hx, h1, if_neg (by decide), if_pos rfl]; simp
theorem sk_brace0 (h : m < xs.length) (hx : x = xs.getD m 0) (h1 : x = 123) (hb : blkAt 123 125 (xs.drop m) 0 0 = -1) : skR sub K xs m lv kl false = -1 := by
  refine skR_done h ?_
  unfold skS; simp only []; rw [← hx, h1, if_neg (by decide), if_pos rfl]; simp [hb]
theorem sk_brace1 (h : m < xs.length) (hx : x = xs.getD m 0) (h1 : x = 123) (hb : blkAt 123 125 (xs.drop m) 0 0 = (j : Int)) : skR sub K xs m lv kl false = skR sub K xs (m + j) lv kl false := by
  refine skR_go h ?_
  unfold skS; simp only []; rw [← hx, h1, if_neg (by decide), if_pos rfl, hb]; simp
theorem sk_arr0 (h : m < xs.length) (hx : x = xs.getD m 0) (h1 : x = 91) (hn : ¬ (kl = lv ∧ isIx (K.getD lv.toNat ByteArray.empty) = true)) (hb : blkAt 91 93 (xs.drop m) 0 0 = -1) : skR sub K xs m lv kl lm = -1 := by
  refine skR_done h ?_
  unfold skS; simp only []; rw [← hx, h1, if_neg (by decide), if_neg (by decide), if_neg (by decide), if_pos rfl, if_neg hn, if_pos hb]
theorem sk_arr1 (h : m < xs.length) (hx : x = xs.getD m 0) (h1 : x = 91) (hn : ¬ (kl = lv ∧ isIx (K.getD lv.toNat ByteArray.empty) = true)) (hb : blkAt 91 93 (xs.drop m) 0 0 = (j : Int)) : skR sub K xs m lv kl lm = skR sub K xs (m + j) lv kl lm := by
  refine skR_go h ?_
  unfold skS; simp only []; rw [← hx, h1, if_neg (by decide), if_neg (by decide), if_neg (by decide), if_pos rfl, if_neg hn, hb, if_neg (by omega), Int.toNat_natCast]
theorem sk_idx (h : m < xs.length) (hx : x = xs.getD m 0) (h1 : x = 91) (hn : kl = lv) (hi : isIx (K.getD lv.toNat ByteArray.empty) = true) : skR sub K xs m lv kl lm = skA sub K xs m lv := by
  refine skR_done h ?_
  unfold skS; simp only []; rw [← hx, h1, if_neg (by decide), if_neg (by decide), if_neg (by decide), if_pos rfl, if_pos ⟨hn, hi⟩]
theorem sk_colon (h : m < xs.length) (hx : x = xs.getD m 0) (h1 : x = 58) : skR sub K xs m lv kl lm = -1 := by
  refine skR_done h ?_
  unfold skS; simp only []; rw [← hx, h1, if_neg (by decide), if_neg (by decide), if_neg (by decide), if_neg (by decide), if_pos rfl]
theorem sk_str0 (h : m < xs.length) (hx : x = xs.getD m 0) (h1 : x = 34) (hs : (seAt (xs.drop (m + 1)) 0 false).1 = -1) : skR sub K xs m lv kl lm = -1 := by
  refine skR_done h ?_
  unfold skS; simp only []; rw [← hx, h1, if_pos rfl, if_pos hs]
theorem skS_q (hx : xs.getD m 0 = 34) (hs : seAt (xs.drop (m + 1)) 0 false = ((j : Int), e)) (hz : z = m + 1 + j + bl (xs.drop (m + 1 + j))) :
    skS sub K xs m lv kl lm = if z = xs.length then .done (-1)
      else if xs.getD z 0 = 58 then
        if lv < 1 then .done (-1)
        else match (if e then ue ((xs.drop (m + 1)).take (j - 1)) else some ((xs.drop (m + 1)).take (j - 1))) with
          | none => .done (-1)
          | some ku =>
            if lv ≤ K.length then
              if ku = bytesOf (K.getD (lv.toNat - 1) ByteArray.empty) then
                if kl = lv - 1 then (if kl + 1 = K.length then .done (z + 1) else .go (z + 1) lv (kl + 1) true)
                else .go (z + 1) lv kl true
              else .go (z + 1) lv kl false
            else .done (-1)
      else .go z lv kl lm := by
  subst hz
  unfold skS; simp only []; rw [hx, if_pos rfl, hs]; simp only []
  rw [if_neg (by omega), Int.toNat_natCast]
  rfl
variable (h : m < xs.length) (hx : x = xs.getD m 0) (h1 : x = 34) (hs : seAt (xs.drop (m + 1)) 0 false = ((j : Int), e)) (hz : z = m + 1 + j + bl (xs.drop (m + 1 + j)))
include h hx h1 hs hz
theorem sk_q_end (he : z = xs.length) : skR sub K xs m lv kl lm = -1 := by
  refine skR_done h ?_
  rw [skS_q (by omega) hs hz, if_pos he]
theorem sk_q_val (he : z < xs.length) (hc : xs.getD z 0 ≠ 58) : skR sub K xs m lv kl lm = skR sub K xs z lv kl lm := by
  refine skR_go h ?_
  rw [skS_q (by omega) hs hz, if_neg (by omega), if_neg hc]
theorem sk_q_top (he : z < xs.length) (hc : xs.getD z 0 = 58) (hl : lv < 1) : skR sub K xs m lv kl lm = -1 := by
  refine skR_done h ?_
  rw [skS_q (by omega) hs hz, if_neg (by omega), if_pos hc, if_pos hl]
theorem sk_q_bad (he : z < xs.length) (hc : xs.getD z 0 = 58) (hk : (if e then ue ((xs.drop (m + 1)).take (j - 1)) else some ((xs.drop (m + 1)).take (j - 1))) = none) : skR sub K xs m lv kl lm = -1 := by
  refine skR_done h ?_
  rw [skS_q (by omega) hs hz, if_neg (by omega), if_pos hc, hk]
  split <;> rfl
theorem sk_q_deep (he : z < xs.length) (hc : xs.getD z 0 = 58) (hk : (if e then ue ((xs.drop (m + 1)).take (j - 1)) else some ((xs.drop (m + 1)).take (j - 1))) = some ku) (hl : ¬ lv ≤ K.length) : skR sub K xs m lv kl lm = -1 := by
  refine skR_done h ?_
  rw [skS_q (by omega) hs hz, if_neg (by omega), if_pos hc, hk]
  simp only []
  rw [if_neg hl]
  split <;> rfl
theorem sk_q_other (he : z < xs.length) (hc : xs.getD z 0 = 58) (hl0 : 1 ≤ lv) (hk : (if e then ue ((xs.drop (m + 1)).take (j - 1)) else some ((xs.drop (m + 1)).take (j - 1))) = some ku) (hl : lv ≤ K.length) (hn : ku ≠ bytesOf (K.getD (lv.toNat - 1) ByteArray.empty)) : skR sub K xs m lv kl lm = skR sub K xs (z + 1) lv kl false := by
  refine skR_go h ?_
  rw [skS_q (by omega) hs hz, if_neg (by omega), if_pos hc, if_neg (by omega), hk]
  simp only []
  rw [if_pos hl, if_neg hn]
theorem sk_q_same (he : z < xs.length) (hc : xs.getD z 0 = 58) (hl0 : 1 ≤ lv) (hk : (if e then ue ((xs.drop (m + 1)).take (j - 1)) else some ((xs.drop (m + 1)).take (j - 1))) = some ku) (hl : lv ≤ K.length) (hn : ku = bytesOf (K.getD (lv.toNat - 1) ByteArray.empty)) (hq : kl ≠ lv - 1) : skR sub K xs m lv kl lm = skR sub K xs (z + 1) lv kl true := by
  refine skR_go h ?_
  rw [skS_q (by omega) hs hz, if_neg (by omega), if_pos hc, if_neg (by omega), hk]
  simp only []
  rw [if_pos hl, if_pos hn, if_neg hq]
theorem sk_q_last (he : z < xs.length) (hc : xs.getD z 0 = 58) (hl0 : 1 ≤ lv) (hk : (if e then ue ((xs.drop (m + 1)).take (j - 1)) else some ((xs.drop (m + 1)).take (j - 1))) = some ku) (hl : lv ≤ K.length) (hn : ku = bytesOf (K.getD (lv.toNat - 1) ByteArray.empty)) (hq : kl = lv - 1) (hf : kl + 1 = K.length) : skR sub K xs m lv kl lm = (z : Int) + 1 := by
  refine skR_done h ?_
  rw [skS_q (by omega) hs hz, if_neg (by omega), if_pos hc, if_neg (by omega), hk]
  simp only []
  rw [if_pos hl, if_pos hn, if_pos hq, if_pos hf]
theorem sk_q_next (he : z < xs.length) (hc : xs.getD z 0 = 58) (hl0 : 1 ≤ lv) (hk : (if e then ue ((xs.drop (m + 1)).take (j - 1)) else some ((xs.drop (m + 1)).take (j - 1))) = some ku) (hl : lv ≤ K.length) (hn : ku = bytesOf (K.getD (lv.toNat - 1) ByteArray.empty)) (hq : kl = lv - 1) (hf : kl + 1 ≠ K.length) : skR sub K xs m lv kl lm = skR sub K xs (z + 1) lv (kl + 1) true := by
  refine skR_go h ?_
  rw [skS_q (by omega) hs hz, if_neg (by omega), if_pos hc, if_neg (by omega), hk]
  simp only []
  rw [if_pos hl, if_pos hn, if_pos hq, if_neg hf]
end
theorem skA_congr {sub sub' : List ByteArray → List Int → Int} {K : List ByteArray} {xs : List Int} {i : Nat} {lv : Int} (h : ∀ K' ys, K'.length < K.length → sub K' ys = sub' K' ys) (hK : K ≠ []) : skA sub K xs i lv = skA sub' K xs i lv := by
  unfold skA
  have e := fun ys => h (K.drop (lv.toNat + 1)) ys (by
    rw [List.length_drop]
    cases K with
    | nil => exact absurd rfl hK
    | cons a l => simp; omega)
  simp only [e]
theorem skS_congr {sub sub' : List ByteArray → List Int → Int} {K : List ByteArray} {xs : List Int} {i : Nat} {lv kl : Int} {lm : Bool} (h : ∀ K' ys, K'.length < K.length → sub K' ys = sub' K' ys) (hK : K ≠ []) : skS sub K xs i lv kl lm = skS sub' K xs i lv kl lm := by
  unfold skS
  rw [skA_congr h hK]
theorem skL_congr {sub sub' : List ByteArray → List Int → Int} {K : List ByteArray} {xs : List Int} (h : ∀ K' ys, K'.length < K.length → sub K' ys = sub' K' ys) (hK : K ≠ []) : ∀ (f i : Nat) (lv kl : Int) (lm : Bool), skL sub K xs f i lv kl lm = skL sub' K xs f i lv kl lm
  | 0, _, _, _, _ => rfl
  | f + 1, i, lv, kl, lm => by
    rw [skL, skL, skS_congr h hK]
    by_cases hi : i < xs.length
    · rw [if_pos hi, if_pos hi]
      cases skS sub' K xs i lv kl lm with
      | done r => rfl
      | go i' lv' kl' lm' => exact skL_congr h hK f _ _ _ _
    · rw [if_neg hi, if_neg hi]
theorem skR_congr {sub sub' : List ByteArray → List Int → Int} {K : List ByteArray} {xs : List Int} {i : Nat} {lv kl : Int} {lm : Bool} (h : ∀ K' ys, K'.length < K.length → sub K' ys = sub' K' ys) (hK : K ≠ []) : skR sub K xs i lv kl lm = skR sub' K xs i lv kl lm := skL_congr h hK _ _ _ _ _
theorem skN_fuel : ∀ (f g : Nat) (K : List ByteArray) (xs : List Int), K.length ≤ f → K.length ≤ g → skN f K xs = skN g K xs
  | 0, 0, _, _, _, _ => rfl
  | 0, g + 1, [], _, _, _ => by rw [skN, skN, if_pos rfl]
  | f + 1, 0, [], _, _, _ => by rw [skN, skN, if_pos rfl]
  | 0, _ + 1, _ :: _, _, h, _ => by simp at h
  | _ + 1, 0, _ :: _, _, _, h => by simp at h
  | f + 1, g + 1, [], _, _, _ => by rw [skN, skN, if_pos rfl, if_pos rfl]
  | f + 1, g + 1, k :: K, xs, hf, hg => by
    rw [skN, skN, if_neg (by simp), if_neg (by simp)]
    refine skR_congr (fun K' ys hK => ?_) (by simp)
    simp only [List.length_cons] at hf hg hK
    exact skN_fuel f g K' ys (by omega) (by omega)
theorem sks_nil (xs : List Int) : sks [] xs = 0 := rfl
theorem sks_eq {K : List ByteArray} (xs : List Int) (h : K ≠ []) : sks K xs = skR sks K xs 0 0 0 true := by
  cases K with
  | nil => exact absurd rfl h
  | cons k K =>
    show skN (K.length + 1) (k :: K) xs = _
    rw [skN, if_neg h]
    refine skR_congr (fun K' ys hK => ?_) h
    simp only [List.length_cons] at hK
    exact skN_fuel _ _ K' ys (by omega) (Nat.le_refl _)
end Go.Proofs.YtpahejmkidhhhaaDoor.G
