/- json-patch: values as plain data, and what they are as lazy nodes (plain). -/
import Derived.Test.YtmomjgkbimeeoaaWWords
import Derived.Test.YtmomjgkbimeeoaaGvJ
namespace Go.Proofs.Ytmomjgkbimeeoaa.G
set_option linter.unusedVariables false
set_option linter.unusedSimpArgs false
open Go.RowKit Go.Proofs.YtmomjgkbimeeoaaW.PrintWords

/-- A value as plain data. -/
inductive Nd where
  | mk (kind : Int) (text : ByteArray) (keys : List ByteArray) (kids : List Nd)
def Nd.kind : Nd → Int | .mk k _ _ _ => k
def Nd.text : Nd → ByteArray | .mk _ t _ _ => t
def Nd.keys : Nd → List ByteArray | .mk _ _ ks _ => ks
def Nd.kids : Nd → List Nd | .mk _ _ _ kids => kids
mutual
def Nd.sz : Nd → Nat
  | .mk _ _ _ kids => Nd.szs kids + 1
def Nd.szs : List Nd → Nat
  | [] => 0
  | a :: r => a.sz + Nd.szs r
end
theorem Nd.szs_mem : ∀ {l : List Nd} {a : Nd}, a ∈ l → a.sz ≤ Nd.szs l
  | b :: r, a, h => by
    unfold Nd.szs
    rcases List.mem_cons.1 h with rfl | h
    · omega
    · have := Nd.szs_mem h; omega
theorem Nd.sz_kid {k : Int} {t : ByteArray} {ks : List ByteArray} {kids : List Nd} {a : Nd} (h : a ∈ kids) : a.sz < (Nd.mk k t ks kids).sz := by
  have := Nd.szs_mem h
  show a.sz < Nd.szs kids + 1
  omega
/-- The nothing of a text. -/
def noStr : ByteArray := ⟨#[]⟩
/-- Kinds, and what each kind does not use. -/
def Td1 (k : Int) (t : ByteArray) (ks : List ByteArray) (kids : List Nd) : Prop :=
  ((k = 0 ∨ k = 1 ∨ k = 2) ∧ t = noStr ∧ ks = [] ∧ kids = []) ∨ (k = 3 ∧ num (bytesOf t) = some t.size ∧ ks = [] ∧ kids = []) ∨ (k = 4 ∧ ks = [] ∧ kids = []) ∨ (k = 5 ∧ t = noStr ∧ ks = []) ∨ (k = 6 ∧ t = noStr ∧ ks.length = kids.length)
mutual
def Td : Nd → Prop
  | .mk k t ks kids => Td1 k t ks kids ∧ Tds kids
def Tds : List Nd → Prop
  | [] => True
  | a :: r => Td a ∧ Tds r
end
mutual
def Uq : Nd → Prop
  | .mk k t ks kids => ks.Nodup ∧ Uqs kids
def Uqs : List Nd → Prop
  | [] => True
  | a :: r => Uq a ∧ Uqs r
end
theorem tds_iff : ∀ {l : List Nd}, Tds l ↔ ∀ a ∈ l, Td a
  | [] => by simp [Tds]
  | a :: r => by simp [Tds, tds_iff (l := r)]
theorem uqs_iff : ∀ {l : List Nd}, Uqs l ↔ ∀ a ∈ l, Uq a
  | [] => by simp [Uqs]
  | a :: r => by simp [Uqs, uqs_iff (l := r)]
/-- A lazy node. -/
inductive Lz where
  | nul
  | raw (s : List Int)
  | doc (ks : List ByteArray) (vs : List Lz)
  | ary (vs : List Lz)
mutual
def Lz.sz : Lz → Nat
  | .nul => 1
  | .raw _ => 1
  | .doc _ vs => Lz.szs vs + 1
  | .ary vs => Lz.szs vs + 1
def Lz.szs : List Lz → Nat
  | [] => 0
  | a :: r => a.sz + Lz.szs r
end
def bNull : List Int := [110, 117, 108, 108]
def bFalse : List Int := [102, 97, 108, 115, 101]
def bTrue : List Int := [116, 114, 117, 101]
mutual
def lz : Nd → Lz
  | .mk k t ks kids => if k = 0 then .nul else if k = 1 then .raw bFalse else if k = 2 then .raw bTrue else if k = 3 then .raw (bytesOf t) else if k = 4 then .raw (34 :: bytesOf t ++ [34]) else if k = 5 then .ary (lzs kids) else .doc ks (lzs kids)
def lzs : List Nd → List Lz
  | [] => []
  | a :: r => lz a :: lzs r
end
theorem lzs_map : ∀ l : List Nd, lzs l = l.map lz
  | [] => rfl
  | a :: r => by simp [lzs, lzs_map r]
def backRaw (s : List Int) : Nd :=
  if s = bNull then .mk 0 noStr [] [] else if s = bFalse then .mk 1 noStr [] [] else if s = bTrue then .mk 2 noStr [] []
  else if 1 < s.length ∧ s.getD 0 0 = 34 then .mk 4 (strOfNums ((s.drop 1).take (s.length - 2))) [] [] else .mk 3 (strOfNums s) [] []
mutual
def back : Lz → Nd
  | .nul => .mk 0 noStr [] []
  | .raw s => backRaw s
  | .doc ks vs => .mk 6 noStr ks (backs vs)
  | .ary vs => .mk 5 noStr [] (backs vs)
def backs : List Lz → List Nd
  | [] => []
  | a :: r => back a :: backs r
end
theorem backs_map : ∀ l : List Lz, backs l = l.map back
  | [] => rfl
  | a :: r => by simp [backs, backs_map r]

/-- The place of the first of a name. -/
def memb : List ByteArray → ByteArray → Option Nat
  | [], _ => none
  | k :: r, x => if k = x then some 0 else (memb r x).map (· + 1)
theorem memb_lt : ∀ {ks : List ByteArray} {x : ByteArray} {i : Nat}, memb ks x = some i → i < ks.length ∧ ks.getD i noStr = x
  | k :: r, x, i, h => by
    unfold memb at h
    by_cases e : k = x
    · rw [if_pos e] at h
      obtain rfl := Option.some.inj h
      exact ⟨by simp, by simpa using e⟩
    · rw [if_neg e] at h
      obtain ⟨j, hj, rfl⟩ := Option.map_eq_some_iff.1 h
      have := memb_lt hj
      exact ⟨by simp; exact this.1, by simpa using this.2⟩
theorem memb_none : ∀ {ks : List ByteArray} {x : ByteArray}, memb ks x = none ↔ x ∉ ks
  | [], x => by simp [memb]
  | k :: r, x => by
    unfold memb
    by_cases e : k = x
    · simp [e]
    · rw [if_neg e, Option.map_eq_none_iff, memb_none]
      simp [Ne.symm e]
theorem memb_nodup : ∀ {ks : List ByteArray}, ks.Nodup → ∀ i (hi : i < ks.length), memb ks (ks.getD i noStr) = some i
  | k :: r, hn, i, hi => by
    obtain ⟨h1, h2⟩ := List.nodup_cons.1 hn
    cases i with
    | zero => simp [memb]
    | succ i =>
      have hi' : i < r.length := by simpa using hi
      have e : k ≠ r.getD i noStr := by
        intro e
        apply h1
        rw [e, List.getD_eq_getElem?_getD, List.getElem?_eq_getElem hi']
        exact List.getElem_mem _
      unfold memb
      rw [List.getD_cons_succ, if_neg e, memb_nodup h2 i hi']
      rfl
/-- The one of b that is held against the one at i. -/
def pick (o : Bool) (ks : List ByteArray) (i : Nat) (b : Nd) : Option Nd := if o then (memb b.keys (ks.getD i noStr)).bind (fun j => b.kids[j]?) else b.kids[i]?
mutual
def alike : Nd → Nd → Bool
  | .mk k t ks kids, b => decide (k = b.kind) && decide (t = b.text) && decide (kids.length = b.kids.length) && decide (ks.length = b.keys.length) && alikes (decide (k = 6)) ks kids 0 b
def alikes (o : Bool) (ks : List ByteArray) : List Nd → Nat → Nd → Bool
  | [], _, _ => true
  | kid :: r, i, b => (match pick o ks i b with | none => false | some m => alike kid m) && alikes o ks r (i + 1) b
end
mutual
def same : Nd → Nd → Bool
  | .mk k t ks kids, b => decide (k = b.kind) && decide (t = b.text) && decide (ks = b.keys) && decide (kids.length = b.kids.length) && sames kids b.kids
def sames : List Nd → List Nd → Bool
  | [], _ => true
  | _ :: _, [] => true
  | a :: r, b :: q => same a b && sames r q
end
mutual
theorem same_refl : ∀ n : Nd, same n n = true
  | .mk k t ks kids => by
    unfold same
    simp [Nd.kind, Nd.text, Nd.keys, Nd.kids, sames_refl kids]
theorem sames_refl : ∀ l : List Nd, sames l l = true
  | [] => rfl
  | a :: r => by
    unfold sames
    rw [same_refl a, sames_refl r]
    rfl
end
theorem pick_self {k : Int} {t : ByteArray} {ks : List ByteArray} {kids : List Nd} (hl : k = 6 → ks.length = kids.length) (hn : ks.Nodup) {i : Nat} (hi : i < kids.length) : pick (decide (k = 6)) ks i (.mk k t ks kids) = kids[i]? := by
  unfold pick
  by_cases h6 : k = 6
  · rw [if_pos (by simpa using h6)]
    show (memb ks (ks.getD i noStr)).bind (fun j => kids[j]?) = kids[i]?
    rw [memb_nodup hn i (by rw [hl h6]; exact hi)]
    rfl
  · rw [if_neg (by simpa using h6)]
    rfl
theorem td1_len {k : Int} {t : ByteArray} {ks : List ByteArray} {kids : List Nd} (h : Td1 k t ks kids) : k = 6 → ks.length = kids.length := by
  intro e
  unfold Td1 at h
  rcases h with h | h | h | h | h
  · omega
  · omega
  · omega
  · omega
  · exact h.2.2
mutual
theorem alike_refl : ∀ n : Nd, Td n → Uq n → alike n n = true
  | .mk k t ks kids, h1, h2 => by
    unfold Td at h1
    unfold Uq at h2
    unfold alike
    rw [alikes_refl k t ks kids kids 0 (td1_len h1.1) h2.1 h1.2 h2.2 (by simp)]
    simp [Nd.kind, Nd.text, Nd.keys, Nd.kids]
theorem alikes_refl (k : Int) (t : ByteArray) (ks : List ByteArray) (kids : List Nd) : ∀ (r : List Nd) (i : Nat), (k = 6 → ks.length = kids.length) → ks.Nodup → Tds r → Uqs r → kids.drop i = r → alikes (decide (k = 6)) ks r i (.mk k t ks kids) = true
  | [], i, _, _, _, _, _ => by unfold alikes; rfl
  | a :: r, i, hl, hn, h1, h2, hd => by
    have hi : i < kids.length := by
      rcases Nat.lt_or_ge i kids.length with h | h
      · exact h
      · rw [List.drop_eq_nil_of_le h] at hd; cases hd
    have ha : kids[i]? = some a := by
      have := congrArg (·[0]?) hd
      simpa using this
    unfold Tds at h1
    unfold Uqs at h2
    unfold alikes
    rw [pick_self hl hn hi, ha]
    simp only []
    rw [alike_refl a h1.1 h2.1, alikes_refl k t ks kids r (i + 1) hl hn h1.2 h2.2 (by rw [← List.drop_drop, hd]; rfl)]
    rfl
end
theorem getD0 {l : List Int} : l.getD 0 0 = l.headD 0 := by cases l <;> rfl
theorem num_head {l : List Int} {k : Nat} (h : num l = some k) : ∃ c r, l = c :: r ∧ (c = 45 ∨ (48 ≤ c ∧ c ≤ 57)) := by
  unfold num at h
  cases l with
  | nil => simp [mns, tk, ints, dg] at h
  | cons c r =>
    refine ⟨c, r, rfl, ?_⟩
    by_cases e : c = 45
    · exact .inl e
    · right
      have hm : mns (c :: r) = 0 := by simp [mns, tk, e]
      rw [hm, List.drop_zero] at h
      by_cases e8 : c = 48
      · omega
      · have ht : tk 48 (c :: r) = false := by simp [tk, e8]
        unfold ints at h
        rw [ht] at h
        by_cases hd : isDg c = true
        · unfold isDg at hd
          simp at hd
          omega
        · simp [dg, hd] at h
theorem bytes_strOf {l : List Int} (h : ∀ x ∈ l, 0 ≤ x ∧ x ≤ 255) : bytesOf (strOfNums l) = l := by
  unfold bytesOf
  rw [strOfNums_data, List.map_map]
  conv => rhs; rw [← List.map_id l]
  refine List.map_congr_left fun x hx => ?_
  have := h x hx
  simp only [Function.comp, id]
  rw [UInt8.toNat_ofNat']
  omega
theorem bytes_range (s : ByteArray) : ∀ x ∈ bytesOf s, 0 ≤ x ∧ x ≤ 255 := by
  intro x hx
  obtain ⟨b, _, rfl⟩ := List.mem_map.1 hx
  have := b.toNat_lt
  omega
theorem bytes_inj {a b : ByteArray} (h : bytesOf a = bytesOf b) : a = b := by
  unfold bytesOf at h
  have hi : ∀ x y : List UInt8, (x.map fun z => (z.toNat : Int)) = (y.map fun z => (z.toNat : Int)) → x = y := by
    intro x
    induction x with
    | nil => intro y h; cases y with
      | nil => rfl
      | cons _ _ => simp at h
    | cons c x ih => intro y h; cases y with
      | nil => simp at h
      | cons d y =>
        simp at h
        rw [ih y (by simpa using h.2), show c = d from UInt8.toNat_inj.1 (by omega)]
  exact ByteArray.ext (Array.toList_inj.1 (hi _ _ h))
theorem str_bytes (s : ByteArray) : strOfNums (bytesOf s) = s := bytes_inj (bytes_strOf (bytes_range s))
theorem back_quoted (t : ByteArray) : backRaw (34 :: bytesOf t ++ [34]) = .mk 4 t [] [] := by
  have hl : (34 :: bytesOf t ++ [34]).length = (bytesOf t).length + 2 := by simp
  unfold backRaw
  rw [if_neg (by simp [bNull]), if_neg (by simp [bFalse]), if_neg (by simp [bTrue]), if_pos (by rw [hl]; refine ⟨by omega, by simp⟩), hl]
  have : ((34 :: bytesOf t ++ [34]).drop 1).take ((bytesOf t).length + 2 - 2) = bytesOf t := by simp
  rw [this, str_bytes]
theorem back_num {t : ByteArray} (h : num (bytesOf t) = some t.size) : backRaw (bytesOf t) = .mk 3 t [] [] := by
  obtain ⟨c, r, e, hc⟩ := num_head h
  unfold backRaw
  rw [if_neg (by rw [e]; simp [bNull]; omega), if_neg (by rw [e]; simp [bFalse]; omega), if_neg (by rw [e]; simp [bTrue]; omega), if_neg (by rw [e]; simp; omega), str_bytes]
mutual
/-- What comes back of what a value is as a lazy node. -/
theorem back_lz : ∀ n : Nd, Td n → back (lz n) = n
  | .mk k t ks kids, h => by
    unfold Td at h
    obtain ⟨h1, h2⟩ := h
    unfold Td1 at h1
    unfold lz
    rcases h1 with ⟨h0, rfl, rfl, rfl⟩ | ⟨rfl, h3, rfl, rfl⟩ | ⟨rfl, rfl, rfl⟩ | ⟨rfl, rfl, rfl⟩ | ⟨rfl, rfl, hl⟩
    · rcases h0 with rfl | rfl | rfl
      · rfl
      · rfl
      · rfl
    · rw [if_neg (by decide), if_neg (by decide), if_neg (by decide), if_pos rfl]
      exact back_num h3
    · rw [if_neg (by decide), if_neg (by decide), if_neg (by decide), if_neg (by decide), if_pos rfl]
      exact back_quoted t
    · rw [if_neg (by decide), if_neg (by decide), if_neg (by decide), if_neg (by decide), if_neg (by decide), if_pos rfl]
      unfold back
      rw [backs_lzs kids h2]
    · rw [if_neg (by decide), if_neg (by decide), if_neg (by decide), if_neg (by decide), if_neg (by decide), if_neg (by decide)]
      unfold back
      rw [backs_lzs kids h2]
theorem backs_lzs : ∀ l : List Nd, Tds l → backs (lzs l) = l
  | [], _ => rfl
  | a :: r, h => by
    unfold Tds at h
    unfold lzs backs
    rw [back_lz a h.1, backs_lzs r h.2]
end
end Go.Proofs.Ytmomjgkbimeeoaa.G
