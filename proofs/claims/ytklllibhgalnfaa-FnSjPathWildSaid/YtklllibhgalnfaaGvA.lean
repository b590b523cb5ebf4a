/- gjson's parseUint: what it answers, as a function of the bytes of a text of fewer than 2^63 bytes. -/
import Derived.Test.YtklllibhgalnfaaProg
import Derived.WalkKit
import Derived.WalkSpells
import Derived.WalkLawsBesides
import Derived.ScopeJumps
import Derived.Lib.Hide
import Derived.WalkMore
import Derived.Test.YtklllibhgalnfaaWWords
namespace Go.Proofs.Ytklllibhgalnfaa.G
open Go.RowKit Go.Proofs.YtklllibhgalnfaaW.PrintWords

def dg (c : UInt8) : Bool := 48 ≤ c && c ≤ 57
def pu : List UInt8 → Int → Int × Bool
  | [], n => (n, true)
  | c :: l, n => if dg c = true then (if IntKind.u64.wrap (IntKind.u64.wrap (n * 10) + ((c.toNat : Int) - 48)) < n then (if (c :: l).all dg = true then (18446744073709551615, true) else (0, false)) else pu l (IntKind.u64.wrap (IntKind.u64.wrap (n * 10) + ((c.toNat : Int) - 48)))) else (0, false)
def gjson_parseUint.f (a0 : ByteArray) : Option (Int × Bool) := if a0.size ≤ 9223372036854775807 then some (if a0.data.toList = [] then (0, false) else pu a0.data.toList 0) else none

theorem drop_cons (s : ByteArray) (k : Nat) (h : k < s.size) : s.data.toList.drop k = s[k] :: s.data.toList.drop (k + 1) := by
  have h' : k < s.data.toList.length := by simpa using h
  rw [List.drop_eq_getElem_cons h']; rfl
theorem drop_end (s : ByteArray) (k : Nat) (h : ¬ k < s.size) : s.data.toList.drop k = [] := List.drop_eq_nil_of_le (by simpa using h)
theorem dg_lo {c : UInt8} (h : (c.toNat : Int) < 48) : dg c = false := by
  have : ¬ 48 ≤ c := by rw [UInt8.le_iff_toNat_le]; simp; omega
  simp [dg, this]
theorem dg_hi {c : UInt8} (h : (57 : Int) < c.toNat) : dg c = false := by
  have : ¬ c ≤ 57 := by rw [UInt8.le_iff_toNat_le]; simp; omega
  simp [dg, this]
theorem dg_in {c : UInt8} (h1 : (48 : Int) ≤ c.toNat) (h2 : (c.toNat : Int) ≤ 57) : dg c = true := by
  have h1 : 48 ≤ c := by rw [UInt8.le_iff_toNat_le]; simp; omega
  have h2 : c ≤ 57 := by rw [UInt8.le_iff_toNat_le]; simp; omega
  simp [dg, h1, h2]
theorem wrap_pos (x : Int) : 0 ≤ IntKind.u64.wrap x := by
  have h : (2 : Int) ^ IntKind.u64.bits = 18446744073709551616 := by decide
  have h2 : IntKind.u64.signed = false := rfl
  simp only [IntKind.wrap, h2, h]; simp; omega

def pm (l : List UInt8) : Int × Bool := if l.all dg = true then (18446744073709551615, true) else (0, false)
theorem pm_no {c : UInt8} {l : List UInt8} (h : dg c = false) : pm (c :: l) = (0, false) := by simp [pm, h]
theorem pm_yes {c : UInt8} {l : List UInt8} (h : dg c = true) : pm (c :: l) = pm l := by simp [pm, h]
theorem pu_no {c : UInt8} {l : List UInt8} {n : Int} (h : dg c = false) : pu (c :: l) n = (0, false) := by simp [pu, h]
theorem pu_over {c : UInt8} {l : List UInt8} {n : Int} (h : dg c = true) (h2 : IntKind.u64.wrap (IntKind.u64.wrap (n * 10) + ((c.toNat : Int) - 48)) < n) : pu (c :: l) n = pm (c :: l) := by
  rw [pu, if_pos h, if_pos h2]; rfl
theorem pu_on {c : UInt8} {l : List UInt8} {n : Int} (h : dg c = true) (h2 : n ≤ IntKind.u64.wrap (IntKind.u64.wrap (n * 10) + ((c.toNat : Int) - 48))) : pu (c :: l) n = pu l (IntKind.u64.wrap (IntKind.u64.wrap (n * 10) + ((c.toNat : Int) - 48))) := by
  rw [pu, if_pos h, if_neg (by omega)]
theorem ret2_eq {a b : Int} {p q : Bool} (h : (a, p) = (b, q)) : Ending.returned (.tuple #[.int .u64 a, .bool p]) = .returned (.tuple #[.int .u64 b, .bool q]) := by
  injection h with h1 h2; rw [h1, h2]

/-- Where the jump leads. -/
def J25 (s : ByteArray) (w : World) (r : Int × Bool) (a' : Act) (w' : World) : Prop :=
  w' = w ∧ ∃ (k : Nat) (u1 u2 u3 u5 u6 u7 u8 u9 u10 u11 u12 u13 u14 u15 u16 u17 u18 u19 u20 u21 u22 u23 u24 u25 u26 u27 u28 u29 u30 u31 u32 u33 u34 u35 u36 u37 u38 u39 u40 u41 u42 u43 u44 u45 u46 u47 u48 u49 u50 u51 u52 u53 u54 u55 : Value), a' = { tmps := #[.string s, u1, u2, u3, .int .i64 k, u5, u6, u7, u8, u9, u10, u11, u12, u13, u14, u15, u16, u17, u18, u19, u20, u21, u22, u23, u24, u25, u26, u27, u28, u29, u30, u31, u32, u33, u34, u35, u36, u37, u38, u39, u40, u41, u42, u43, u44, u45, u46, u47, u48, u49, u50, u51, u52, u53, u54, u55], defers := [] } ∧ k ≤ s.size ∧ Aside0 (pm (s.data.toList.drop k) = r)

set_option maxHeartbeats 2000000 in
set_option maxRecDepth 100000 in
theorem gjson_parseUint.any (s : ByteArray) (w : World) (n : Int) (b : Bool) (hs : 0 < s.size) (hm : s.size ≤ 9223372036854775807) (hr : pu s.data.toList 0 = (n, b)) :
    Calls Try.prog 25 #[.string s] w fun e w' => e = .returned (.tuple #[.int .u64 n, .bool b]) ∧ w = w' := by
  have hne : ((0 : Int) == (s.size : Int)) = false := by simp; omega
  have HR := Aside0.mk hr
  clear hr
  go_enter Try.func25, Try.ntmps25
  go_wp2
  refine wp_scope_jumps 0 (J25 s w (n, b)) (fun _ _ => 0) rfl ?_ ?_
  · go_wp2
    go_loop [4, 5] (fun i v => ∃ (k : Nat) (m : Int), k ≤ s.size ∧ i = .int .i64 k ∧ v = .int .u64 m ∧ 0 ≤ m ∧ Aside0 (pu (s.data.toList.drop k) m = (n, b))) (fun i _ => s.size - (intOf i).toNat)
    case atStart => exact ⟨0, 0, by omega, rfl, rfl, by omega, HR⟩
    case round =>
      obtain ⟨k, m, hk, rfl, rfl, hm0, hp⟩ := hrel
      by_cases hlt : k < s.size
      · have hd := Aside0.mk (drop_cons s k hlt)
        by_cases h1 : (s[k].toNat : Int) < 48
        · have hf := Aside0.mk (dg_lo h1)
          go_wp2
          simp only [Exit.jump]
          go_ret2
          exact ⟨ret2_eq (by rw [← hp.out, hd.out, pu_no hf.out]), rfl⟩
        · by_cases h2 : (57 : Int) < s[k].toNat
          · have hf := Aside0.mk (dg_hi h2)
            go_wp2
            simp only [Exit.jump]
            go_ret2
            exact ⟨ret2_eq (by rw [← hp.out, hd.out, pu_no hf.out]), rfl⟩
          · have h1' : (48 : Int) ≤ s[k].toNat := by omega
            have h2' : (s[k].toNat : Int) ≤ 57 := by omega
            have hf := Aside0.mk (dg_in h1' h2')
            go_wp2
            · have hov : IntKind.u64.wrap (IntKind.u64.wrap (m * 10) + (↑s[k].toNat - 48)) < m := by assumption
              have hov' := Aside0.mk hov
              clear hov
              refine wp_goto ?_
              refine And.intro rfl ?_
              unfold J25
              exact ⟨rfl, k, _, _, _, _, _, _, _, _, _, _, _, _, _, _, _, _, _, _, _, _, _, _, _, _, _, _, _, _, _, _, _, _, _, _, _, _, _, _, _, _, _, _, _, _, _, _, _, _, _, _, _, _, _, _, rfl, hk, ⟨by rw [← hp.out, hd.out, pu_over hf.out hov'.out]⟩⟩
            · have hov : m ≤ IntKind.u64.wrap (IntKind.u64.wrap (m * 10) + (↑s[k].toNat - 48)) := by assumption
              go_round
              case rel => exact ⟨k + 1, _, by omega, by go_num, rfl, wrap_pos _, ⟨by rw [← hp.out, hd.out, pu_on hf.out hov]⟩⟩
              case measure => simp [intOf]; omega
      · have hd := Aside0.mk (drop_end s k hlt)
        go_wp2
        simp only [Exit.jump]
        go_ret2
        exact ⟨ret2_eq (by rw [← hp.out, hd.out, pu]), rfl⟩
  · rintro a' w' ⟨rfl, k, u1, u2, u3, u5, u6, u7, u8, u9, u10, u11, u12, u13, u14, u15, u16, u17, u18, u19, u20, u21, u22, u23, u24, u25, u26, u27, u28, u29, u30, u31, u32, u33, u34, u35, u36, u37, u38, u39, u40, u41, u42, u43, u44, u45, u46, u47, u48, u49, u50, u51, u52, u53, u54, u55, rfl, hk, hp⟩
    go_wp2
    go_loop [4] (fun i => ∃ k : Nat, k ≤ s.size ∧ i = .int .i64 k ∧ Aside0 (pm (s.data.toList.drop k) = (n, b))) (fun i => s.size - (intOf i).toNat)
    case atStart => exact ⟨k, hk, rfl, hp⟩
    case round =>
      clear hk hp
      obtain ⟨k, hk, rfl, hp⟩ := hrel
      by_cases hlt : k < s.size
      · have hd := Aside0.mk (drop_cons s k hlt)
        by_cases h1 : (s[k].toNat : Int) < 48
        · have hf := Aside0.mk (dg_lo h1)
          go_wp2
          simp only [Exit.jump]
          go_ret2
          exact ⟨ret2_eq (by rw [← hp.out, hd.out, pm_no hf.out]), rfl⟩
        · by_cases h2 : (57 : Int) < s[k].toNat
          · have hf := Aside0.mk (dg_hi h2)
            go_wp2
            simp only [Exit.jump]
            go_ret2
            exact ⟨ret2_eq (by rw [← hp.out, hd.out, pm_no hf.out]), rfl⟩
          · have h1' : (48 : Int) ≤ s[k].toNat := by omega
            have h2' : (s[k].toNat : Int) ≤ 57 := by omega
            have hf := Aside0.mk (dg_in h1' h2')
            go_wp2
            go_round
            case rel => exact ⟨k + 1, by omega, by go_num, ⟨by rw [← hp.out, hd.out, pm_yes hf.out]⟩⟩
            case measure => simp [intOf]; omega
      · have hd := Aside0.mk (drop_end s k hlt)
        go_wp2
        simp only [Exit.jump]
        go_ret2
        exact ⟨ret2_eq (by rw [← hp.out, hd.out]; rfl), rfl⟩

set_option maxHeartbeats 1000000 in
theorem gjson_parseUint.calls (a0 : ByteArray) (r1 : Int) (r2 : Bool) (w : World) (h : gjson_parseUint.f a0 = some (r1, r2)) :
    Calls Try.prog 25 #[.string a0] w fun e w' => e = .returned (.tuple #[.int .u64 r1, .bool r2]) ∧ Drawn0 w w' := by
  unfold gjson_parseUint.f at h
  split at h
  · rename_i hm
    simp only [Option.some.injEq] at h
    split at h
    · rename_i he
      simp only [Prod.mk.injEq] at h
      obtain ⟨rfl, rfl⟩ := h
      have hz : a0.size = 0 := by
        have := congrArg List.length he
        simpa using this
      have hne : ((0 : Int) == (a0.size : Int)) = true := by simp; omega
      clear he hz
      go_enter Try.func25, Try.ntmps25
      go_wp2
      go_step3
      go_wp2
      rw [Exit.noGoto_ret]
      go_ret2
      exact ⟨rfl, Drawn0.refl _⟩
    · rename_i he
      have hp : 0 < a0.size := by
        rcases Nat.eq_zero_or_pos a0.size with h0 | h0
        · exact absurd (List.eq_nil_of_length_eq_zero (by simpa using h0)) he
        · exact h0
      refine (gjson_parseUint.any a0 w r1 r2 hp hm h).mono ?_
      rintro e w' ⟨rfl, rfl⟩
      exact ⟨rfl, Drawn0.refl _⟩
  · cases h
end Go.Proofs.Ytklllibhgalnfaa.G
