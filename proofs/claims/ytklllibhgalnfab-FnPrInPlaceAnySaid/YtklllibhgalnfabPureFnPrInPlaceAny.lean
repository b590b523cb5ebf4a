/- ugly and spec in plain Lean: ugly used twice changes nothing more, and keeps a first byte above the blank. -/
import Derived.Test.YtklllibhgalnfabGvU
namespace Go.Proofs.Ytklllibhgalnfab.G
set_option linter.unusedVariables false
set_option linter.unusedSimpArgs false
open Go.RowKit Go.Proofs.YtklllibhgalnfabW.PrintWords

theorem ugly_again : ∀ (r : List Int) (m : Bool) (out : List Int), ∃ t, uglyF m out r = out ++ t ∧ uglyF m out t = out ++ t ∧ ∀ x ∈ t, x ∈ r
  | [], m, out => ⟨[], by cases m <;> simp [uglyF], by cases m <;> simp [uglyF], by simp⟩
  | b :: r, false, out => by
    by_cases h : 32 < b
    · obtain ⟨t, h1, h2, h3⟩ := ugly_again r (b == 34) (out ++ [b])
      refine ⟨b :: t, by rw [uglyF, if_pos h, h1]; simp, by rw [uglyF, if_pos h, h2]; simp, fun x hx => ?_⟩
      rcases List.mem_cons.1 hx with rfl | hx
      · exact List.mem_cons_self
      · exact List.mem_cons_of_mem _ (h3 x hx)
    · obtain ⟨t, h1, h2, h3⟩ := ugly_again r false out
      exact ⟨t, by rw [uglyF, if_neg h, h1], h2, fun x hx => List.mem_cons_of_mem _ (h3 x hx)⟩
  | b :: r, true, out => by
    obtain ⟨t, h1, h2, h3⟩ := ugly_again r (!(b == 34 && trail out % 2 == 0)) (out ++ [b])
    refine ⟨b :: t, by rw [uglyF, h1]; simp, by rw [uglyF, h2]; simp, fun x hx => ?_⟩
    rcases List.mem_cons.1 hx with rfl | hx
    · exact List.mem_cons_self
    · exact List.mem_cons_of_mem _ (h3 x hx)
theorem ugly_first {b : Int} {r : List Int} (h : 32 < b) : ∃ t, uglyF false [] (b :: r) = b :: t := by
  obtain ⟨t, h1, _⟩ := ugly_again r (b == 34) ([] ++ [b])
  exact ⟨t, by rw [uglyF, if_pos h, h1]; rfl⟩
theorem bytesOf_range (s : ByteArray) : ∀ x ∈ bytesOf s, 0 ≤ x ∧ x < 256 := by
  intro x hx
  obtain ⟨b, _, rfl⟩ := List.mem_map.1 hx
  have := b.toNat_lt
  omega
theorem bytesOf_nums {xs : List Int} (h : ∀ x ∈ xs, 0 ≤ x ∧ x < 256) : bytesOf (strOfNums xs) = xs := by
  unfold bytesOf strOfNums
  simp only [List.map_map]
  conv => rhs; rw [← List.map_id xs]
  refine List.map_congr_left fun x hx => ?_
  obtain ⟨h1, h2⟩ := h x hx
  simp
  omega
/-- The text that ugly makes of a text. -/
def uglyS (s : ByteArray) : ByteArray := strOfNums (uglyF false [] (bytesOf s))
theorem bytes_uglyS (s : ByteArray) : bytesOf (uglyS s) = uglyF false [] (bytesOf s) := by
  obtain ⟨t, h1, _, h3⟩ := ugly_again (bytesOf s) false []
  refine bytesOf_nums fun x hx => ?_
  rw [h1] at hx
  exact bytesOf_range s x (h3 x (by simpa using hx))
theorem uglyS_again (s : ByteArray) : uglyS (uglyS s) = uglyS s := by
  have hb := bytes_uglyS s
  obtain ⟨t, h1, h2, _⟩ := ugly_again (bytesOf s) false []
  have e : uglyS (uglyS s) = strOfNums (uglyF false [] (bytesOf (uglyS s))) := rfl
  rw [e, hb, h1]
  simp only [List.nil_append] at h2 ⊢
  rw [h2]
  have e2 : uglyS s = strOfNums (uglyF false [] (bytesOf s)) := rfl
  rw [e2, h1]; rfl
theorem uglyS_size (s : ByteArray) : (uglyS s).size ≤ s.size := by
  have h := bytes_uglyS s
  have : ∀ (r : List Int) (m : Bool) (out : List Int), (uglyF m out r).length ≤ out.length + r.length := by
    intro r
    induction r with
    | nil => intro m out; cases m <;> simp [uglyF]
    | cons b r ih =>
      intro m out
      cases m
      · rw [uglyF]
        split
        · have := ih (b == 34) (out ++ [b]); simp at this ⊢; omega
        · have := ih false out; simp at this ⊢; omega
      · rw [uglyF]
        have := ih (!(b == 34 && trail out % 2 == 0)) (out ++ [b]); simp at this ⊢; omega
  have h2 := this (bytesOf s) false []
  rw [← h, bytesOf_length, bytesOf_length] at h2
  simpa using h2
theorem uglyS_first (s : ByteArray) (h0 : 0 < s.size) (h : (32 : Int) < (s[0].toNat : Int)) : ∃ h1 : 0 < (uglyS s).size, (uglyS s)[0] = s[0] := by
  have hb := bytes_uglyS s
  have hl : 0 < s.data.toList.length := by simpa using h0
  have e : bytesOf s = (s[0].toNat : Int) :: (bytesOf s).drop 1 := by
    have : bytesOf s = ((s.data.toList[0]).toNat : Int) :: (bytesOf s).drop 1 := by
      unfold bytesOf
      generalize s.data.toList = l at hl
      cases l with
      | nil => simp at hl
      | cons a l => simp
    exact this
  obtain ⟨t, ht⟩ := ugly_first (r := (bytesOf s).drop 1) h
  rw [e] at hb
  rw [ht] at hb
  have hsz : 0 < (uglyS s).size := by rw [← bytesOf_length, hb]; simp
  refine ⟨hsz, ?_⟩
  have hl2 : 0 < (uglyS s).data.toList.length := by simpa using hsz
  have e2 : (((uglyS s)[0]).toNat : Int) = s[0].toNat := by
    have : bytesOf (uglyS s) = (((uglyS s).data.toList[0]).toNat : Int) :: (bytesOf (uglyS s)).drop 1 := by
      unfold bytesOf
      generalize (uglyS s).data.toList = l at hl2
      cases l with
      | nil => simp at hl2
      | cons a l => simp
    rw [this] at hb
    injection hb with hb _
  have e3 : ((uglyS s)[0]).toNat = (s[0]).toNat := by omega
  exact UInt8.toNat_inj.1 e3
end Go.Proofs.Ytklllibhgalnfab.G
