/- Small words for the pure proofs of this seat: rounds, bytes of a text. -/
import Derived.Test.YtiecdhkmlpceoaaDoorWWords
namespace Go.Proofs.YtiecdhkmlpceoaaDoor.G
set_option linter.unusedVariables false
set_option linter.unusedSimpArgs false
open Go.RowKit Go.Proofs.YtiecdhkmlpceoaaDoorW.PrintWords

theorem w64 {x : Int} (h0 : -9223372036854775808 ≤ x) (h1 : x ≤ 9223372036854775807) : wrap64 x = x := by unfold wrap64; omega
theorem Ev.ret {α : Type} {g : Nat → Option α} {r : α} (h : ∀ k, g k = some r) : Ev g r := ⟨0, fun k _ => h k⟩
theorem Ev.stepRet {α : Type} {g : Nat → Option α} {r : α} (h : ∀ k, g (k + 1) = some r) : Ev g r := ⟨1, fun k hk => by obtain ⟨m, rfl⟩ : ∃ m, k = m + 1 := ⟨k - 1, by omega⟩; exact h m⟩
theorem Ev.succ {α : Type} {g : Nat → Option α} {r : α} (h : Ev (fun k => g (k + 1)) r) : Ev g r := Ev.step (fun _ => rfl) h
theorem Ev.one {α : Type} {g : Nat → Option α} {r r' : α} (h : Ev g r) (h' : Ev g r') : r = r' := by
  obtain ⟨K, h⟩ := h
  obtain ⟨K', h'⟩ := h'
  have a := h (max K K') (Nat.le_max_left _ _)
  have b := h' (max K K') (Nat.le_max_right _ _)
  rw [a] at b
  injection b
theorem size_data (s : ByteArray) : s.data.toList.length = s.size := by simp
theorem toList_data (s : ByteArray) : s.toList = s.data.toList := by rw [ByteArray.toList_eq]
theorem toList_nil {s : ByteArray} (h : 0 < s.size) : ¬ s.toList = ([] : List UInt8) := by
  intro he
  rw [ByteArray.toList_eq] at he
  have h2 : s.data.toList.length = 0 := by rw [he]; rfl
  have h3 := size_data s
  omega
theorem size_pos {s : ByteArray} (h : ¬ s.toList = ([] : List UInt8)) : 0 < s.size := by
  rcases Nat.eq_zero_or_pos s.size with h0 | h0
  · exact absurd (by rw [ByteArray.toList_eq]; exact List.eq_nil_of_length_eq_zero (by simpa using h0)) h
  · exact h0
theorem bt_get (s : ByteArray) (j : Nat) (h : j < s.size) : bt s (j : Int) = (s[j].toNat : Int) := by
  unfold bt
  rw [dif_pos (by simpa using h)]
  rfl
theorem bt_list (s : ByteArray) (i : Nat) : bt s (i : Int) = ((s.data.toList.getD i 0).toNat : Int) := by
  unfold bt
  by_cases h : i < s.size
  · rw [dif_pos (by simpa using h)]
    have h' : i < s.data.toList.length := by simpa using h
    simp [List.getD_eq_getElem?_getD, List.getElem?_eq_getElem h']
    rfl
  · rw [dif_neg (by simpa using h)]
    have h' : s.data.toList.length ≤ i := by simp; omega
    simp [List.getD_eq_getElem?_getD, List.getElem?_eq_none h']
theorem bt_extract (s : ByteArray) {a b i : Nat} (h : a + i < b) (hb : b ≤ s.size) : bt (s.extract a b) (i : Int) = bt s ((a + i : Nat) : Int) := by
  rw [bt_list, bt_list, ByteArray.data_extract, Array.toList_extract]
  simp [List.getD_eq_getElem?_getD, List.getElem?_take, List.getElem?_drop, List.extract]
  rw [if_pos (by omega)]
theorem extract_size (s : ByteArray) (e : Nat) (he : e ≤ s.size) : (s.extract 0 e).size = e := by simp; omega
theorem drop_cons (s : ByteArray) (k : Nat) (h : k < s.size) : s.data.toList.drop k = s[k] :: s.data.toList.drop (k + 1) := by
  have h' : k < s.data.toList.length := by simpa using h
  rw [List.drop_eq_getElem_cons h']; rfl
theorem drop_end (s : ByteArray) (k : Nat) (h : ¬ k < s.size) : s.data.toList.drop k = [] := List.drop_eq_nil_of_le (by simpa using h)
theorem ba_ext {s t : ByteArray} (h : s.data.toList = t.data.toList) : s = t := ByteArray.ext (Array.toList_inj.1 h)
end Go.Proofs.YtiecdhkmlpceoaaDoor.G
