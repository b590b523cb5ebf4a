/- Rows of bytes of a call's own; a character appended in UTF-8. The reference's Unquote. -/
import Derived.Test.YtpahejmkidhhhaaDoorGrD
import Derived.Test.YtpahejmkidhhhaaDoorGvJs
import Derived.BigRegion
import Derived.Deep.RegionLaw
import Derived.OwnWalk
import Derived.Test.YtpahejmkidhhhaaDoorGvPt
section
namespace Go.Proofs.YtpahejmkidhhhaaDoor.G
set_option linter.unusedVariables false
set_option linter.unusedSimpArgs false
open Go.RowKit Go.Proofs.YtpahejmkidhhhaaDoorW.PrintWords

/-! ### rows of bytes -/
def BRow (w : World) (B : Nat) (v : Value) (xs : List Int) : Prop := w.ownsRow B 5 1 v xs.length (nums .u8 xs)
theorem inf5 : (Tryd.prog.info? 5).map (fun i => (i.zero, i.size, i.bytes)) = some (some (.int .u8 0), 1, 1) := by kernel_rfl
theorem nums_one (xs : List Int) : ∀ u ∈ nums .u8 xs, u.oneCell' = true := fun u hu => by
  obtain ⟨x, _, rfl⟩ := List.mem_map.1 hu; rfl
theorem nums_len (xs : List Int) : (nums .u8 xs).length = xs.length := by simp [nums]
/-- append(dst, bytes..), the bytes just built. -/
theorem app_by {ops : Array Oper} {rest : List Oper} {o : Oper} {a : Act} {Q : Exit → Act → World → Prop} {W0 W : World} (hgd : o.guard = none) (sl x : Operand)
    (ho : o.op = .call { callee := .builtin .append, args := #[sl, x], argTypes := #[54, 54] })
    {B : Nat} {v : Value} {m cx : Nat} {xs : List Int} (cs : List Int) (cells : Array Value) (hcs : cells.toList = nums .u8 cs) (hm : m = cs.length) (h0 : 0 < cs.length) (HR : Aside0 (BRow W B v xs)) (HB : Aside0 (Below B W0 W)) (hB : Aside0 (B ≤ W.heap.size)) (hn : Aside0 (xs.length + cs.length ≤ 1099511627000))
    (hs : a.eval sl = v) (hx : a.eval x = .slice (some ⟨W.heap.size, 0, none⟩) m cx)
    (hh : ∀ v' w1, Aside0 (BRow w1 B v' (xs ++ cs)) → Aside0 (Below B W0 w1) → Aside0 (B ≤ w1.heap.size) → wpList Tryd.prog ops Q rest (a.put o.dst v') w1) :
    wpList Tryd.prog ops Q (o :: rest) a (W.alloc (.cells cells 5)) := by
  obtain ⟨i0, hi, hz0, hz1, hz2⟩ := parts_info inf5
  have hn' := hn.out
  have hB' := hB.out
  have hsa : (W.alloc (.cells cells 5)).heap.size = W.heap.size + 1 := by simp [World.size_alloc]
  have hcell : ∀ j u, (nums .u8 cs)[j]? = some u → (W.alloc (.cells cells 5)).cell? ((⟨W.heap.size, 0, none⟩ : Addr).add j) = some u := by
    have := new_cells W (nums .u8 cs) 5
    rw [← hcs] at this ⊢
    simpa using this
  refine wpList_append_own _ hgd sl x 54 ho B 5 i0 (.int .u8 0) 1 1 Tryd.underlying54 hi hz0 hz1 hz2 rfl (by decide) v xs.length (nums .u8 xs) hs (HR.out.alloc _) ⟨W.heap.size, 0, none⟩ m cx (nums .u8 cs) hx (by rw [nums_len, hm, Nat.mul_one]) hcell (nums_one _) (by unfold maxLen; omega) (by omega) (by omega) ?_
  intro v' w1 hown hgrow _
  have hb : Below B W0 w1 := (HB.out.alloc hB' _).grown hgrow (by omega) (own_base HR.out)
  refine hh v' w1 ⟨?_⟩ ⟨hb⟩ ⟨by have := hgrow.size; omega⟩
  unfold BRow
  rw [List.length_append, nums_append, ← hm]
  exact hown
theorem Bytes.app {a b : List Int} (ha : Bytes a) (hb : Bytes b) : Bytes (a ++ b) := fun x hx => by
  rcases List.mem_append.1 hx with h | h
  · exact ha x h
  · exact hb x h
theorem BRow.re {w : World} {B : Nat} {v : Value} {xs ys : List Int} (h : BRow w B v xs) (e : xs = ys) : BRow w B v ys := e ▸ h
/-- append(dst, bytes..), the bytes just built; the new block's number told. -/
theorem app_b2 {ops : Array Oper} {rest : List Oper} {o : Oper} {a : Act} {Q : Exit → Act → World → Prop} {W0 W : World} (hgd : o.guard = none) (sl x : Operand)
    (ho : o.op = .call { callee := .builtin .append, args := #[sl, x], argTypes := #[54, 54] })
    {B : Nat} {v : Value} {m cx : Nat} {xs : List Int} (cs : List Int) (cells : Array Value) (hcs : cells.toList = nums .u8 cs) (hm : m = cs.length) (h0 : 0 < cs.length) (HR : Aside0 (BRow W B v xs)) (HB : Aside0 (Below B W0 W)) (hB : Aside0 (B ≤ W.heap.size)) (hn : Aside0 (xs.length + cs.length ≤ 1099511627000))
    (hs : a.eval sl = v) (H : Nat) (hx : a.eval x = .slice (some ⟨H, 0, none⟩) m cx) (hH : H = W.heap.size)
    (hh : ∀ v' w1, Aside0 (BRow w1 B v' (xs ++ cs)) → Aside0 (Below B W0 w1) → Aside0 (B ≤ w1.heap.size) → wpList Tryd.prog ops Q rest (a.put o.dst v') w1) :
    wpList Tryd.prog ops Q (o :: rest) a (W.alloc (.cells cells 5)) := by
  subst hH
  exact app_by hgd sl x ho cs cells hcs hm h0 HR HB hB hn hs hx hh
theorem BRow.below {w w' : World} {B : Nat} {v : Value} {xs : List Int} (h : BRow w B v xs) (hb : Below w.heap.size w w') : BRow w' B v xs :=
  World.ownsRow.kept h (row := none) ⟨hb.os, hb.tape, hb.output, hb.size, fun k hk _ => hb.block k hk⟩ (by
    cases hv : v.ownBlock with
    | none => exact .inl rfl
    | some g => exact .inr (fun e => by cases e))
theorem high_calls (n : Int) (w : World) : Calls Tryd.prog 44 #[.int .i64 n] w (fun e w' => e = .returned (.bool (decide (55296 ≤ n) && decide (n ≤ 56319))) ∧ w = w') := by
  by_cases h : 55296 ≤ n
  · have h2 : decide (55296 ≤ n) = true := by simpa using h
    go_enter Tryd.func44, Tryd.ntmps44
    go_wp2
    all_goals go_ret
    all_goals exact ⟨by simp [*], rfl⟩
  · have h2 : decide (55296 ≤ n) = false := by simpa using h
    go_enter Tryd.func44, Tryd.ntmps44
    go_wp2
    all_goals go_ret
    all_goals exact ⟨by simp [*], rfl⟩
theorem low_calls (n : Int) (w : World) : Calls Tryd.prog 45 #[.int .i64 n] w (fun e w' => e = .returned (.bool (decide (56320 ≤ n) && decide (n ≤ 57343))) ∧ w = w') := by
  by_cases h : 56320 ≤ n
  · have h2 : decide (56320 ≤ n) = true := by simpa using h
    go_enter Tryd.func45, Tryd.ntmps45
    go_wp2
    all_goals go_ret
    all_goals exact ⟨by simp [*], rfl⟩
  · have h2 : decide (56320 ≤ n) = false := by simpa using h
    go_enter Tryd.func45, Tryd.ntmps45
    go_wp2
    all_goals go_ret
    all_goals exact ⟨by simp [*], rfl⟩
theorem short_calls (c : Int) (h : 0 ≤ c ∧ c < 256) (w : World) : Calls Tryd.prog 43 #[.int .u8 c] w (fun e w' => e = .returned (.int .u8 (shortc c)) ∧ w = w') := by
  have C : c = 98 ∨ c = 102 ∨ c = 110 ∨ c = 114 ∨ c = 116 ∨ (c ≠ 98 ∧ c ≠ 102 ∧ c ≠ 110 ∧ c ≠ 114 ∧ c ≠ 116) := by omega
  rcases C with rfl | rfl | rfl | rfl | rfl | ⟨h1, h2, h3, h4, h5⟩
  · go_enter Tryd.func43, Tryd.ntmps43
    go_wp2
    go_ret
    exact ⟨rfl, rfl⟩
  · go_enter Tryd.func43, Tryd.ntmps43
    go_wp2
    go_ret
    exact ⟨rfl, rfl⟩
  · go_enter Tryd.func43, Tryd.ntmps43
    go_wp2
    go_ret
    exact ⟨rfl, rfl⟩
  · go_enter Tryd.func43, Tryd.ntmps43
    go_wp2
    go_ret
    exact ⟨rfl, rfl⟩
  · go_enter Tryd.func43, Tryd.ntmps43
    go_wp2
    go_ret
    exact ⟨rfl, rfl⟩
  · have HS : Aside0 (shortc c = c) := ⟨by unfold shortc; rw [if_neg h1, if_neg h2, if_neg h3, if_neg h4, if_neg h5]⟩
    have e1 : (c == 98) = false := by simpa using h1
    have e2 : (c == 102) = false := by simpa using h2
    have e3 : (c == 110) = false := by simpa using h3
    have e4 : (c == 114) = false := by simpa using h4
    have e5 : (c == 116) = false := by simpa using h5
    clear h1 h2 h3 h4 h5
    go_enter Tryd.func43, Tryd.ntmps43
    go_wp2
    go_ret
    exact ⟨by rw [HS.out]; rfl, rfl⟩
def Ap8 (cs : List Int) (xs : List Int) (W0 : World) (B : Nat) (e : Ending) (w' : World) : Prop := ∃ v : Value, e = .returned v ∧ Aside0 (BRow w' B v (xs ++ cs)) ∧ Aside0 (Below B W0 w') ∧ Aside0 (B ≤ w'.heap.size)
set_option maxRecDepth 100000 in
set_option maxHeartbeats 4000000 in
theorem ap8_calls (v : Value) (xs : List Int) (B : Nat) (c : Int) (W0 w : World) (hc : 0 ≤ c) (hc2 : c ≤ 1114111) (HR : Aside0 (BRow w B v xs)) (HB : Aside0 (Below B W0 w)) (hB : Aside0 (B ≤ w.heap.size)) (hn : xs.length ≤ 1099511626000) :
    Calls Tryd.prog 46 #[v, .int .i64 c] w (Ap8 (u8 c) xs W0 B) := by
  have HN : ∀ m, m ≤ 100 → Aside0 (xs.length + m ≤ 1099511627000) := fun m hm => ⟨by omega⟩
  have CH := Aside0.mk (fun W => high_calls c W)
  have CL := Aside0.mk (fun W => low_calls c W)
  clear hn
  by_cases h1 : c ≤ 127
  · have HU : Aside0 (u8 c = [c]) := ⟨Lib.encodeRuneZ_one hc h1⟩
    have hd : decide (c < 128) = true := by simp; omega
    go_enter Tryd.func46, Tryd.ntmps46
    go_wp2_with (at_builtin; refine app_b2 rfl _ _ rfl [c] _ rfl rfl (by simp) HR HB hB (HN 1 (by decide)) rfl _ rfl rfl ?_; intro v1 w1 R1 B1 S1)
    refine bodyPost_ret (results_tmp rfl _ _ _) rfl ?_
    exact ⟨_, rfl, by rw [HU.out]; exact R1, B1, S1⟩
  · by_cases h2 : c ≤ 2047
    · have HU : Aside0 (u8 c = [192 + c / 64, 128 + c % 64]) := ⟨Lib.encodeRuneZ_two (by omega) h2⟩
      have hd : decide (c < 128) = false := by simp; omega
      have hd2 : decide (c < 2048) = true := by simp; omega
      have hq : 2 ≤ c / 64 ∧ c / 64 ≤ 31 := by omega
      have hr : 0 ≤ c % 64 ∧ c % 64 ≤ 63 := by omega
      go_enter Tryd.func46, Tryd.ntmps46
      go_wp2_with (at_builtin; refine app_b2 rfl _ _ rfl [192 + c / 64, 128 + c % 64] _ rfl rfl (by simp) HR HB hB (HN 2 (by decide)) rfl _ rfl rfl ?_; intro v1 w1 R1 B1 S1)
      refine bodyPost_ret (results_tmp rfl _ _ _) rfl ?_
      exact ⟨_, rfl, by rw [HU.out]; exact R1, B1, S1⟩
    · have hd : decide (c < 128) = false := by simp; omega
      have hd2 : decide (c < 2048) = false := by simp; omega
      by_cases h3 : 55296 ≤ c ∧ c ≤ 57343
      · have HU : Aside0 (u8 c = [239, 191, 189]) := ⟨by unfold u8 Lib.encodeRuneZ; rw [if_neg (by omega), if_neg (by omega), if_neg (by omega), if_neg (by omega)]⟩
        by_cases h4 : c ≤ 56319
        · have e1 : (decide (55296 ≤ c) && decide (c ≤ 56319)) = true := by simp; omega
          rw [e1] at CH
          clear e1
          go_enter Tryd.func46, Tryd.ntmps46
          go_wp2_with (first
            | (at_builtin; refine app_b2 rfl _ _ rfl [239, 191, 189] _ rfl rfl (by simp) HR HB hB (HN 3 (by decide)) rfl _ rfl rfl ?_; intro v1 w1 R1 B1 S1)
            | (go_at_call 44; refine (CH.out _).mono ?_; rintro e w2 ⟨rfl, rfl⟩))
          refine bodyPost_ret (results_tmp rfl _ _ _) rfl ?_
          exact ⟨_, rfl, by rw [HU.out]; exact R1, B1, S1⟩
        · have e1 : (decide (55296 ≤ c) && decide (c ≤ 56319)) = false := by simp; omega
          have e2 : (decide (56320 ≤ c) && decide (c ≤ 57343)) = true := by simp; omega
          rw [e1] at CH
          rw [e2] at CL
          clear e1 e2
          go_enter Tryd.func46, Tryd.ntmps46
          go_wp2_with (first
            | (at_builtin; refine app_b2 rfl _ _ rfl [239, 191, 189] _ rfl rfl (by simp) HR HB hB (HN 3 (by decide)) rfl _ rfl rfl ?_; intro v1 w1 R1 B1 S1)
            | (go_at_call 44; refine (CH.out _).mono ?_; rintro e w2 ⟨rfl, rfl⟩)
            | (go_at_call 45; refine (CL.out _).mono ?_; rintro e w2 ⟨rfl, rfl⟩))
          refine bodyPost_ret (results_tmp rfl _ _ _) rfl ?_
          exact ⟨_, rfl, by rw [HU.out]; exact R1, B1, S1⟩
      · have e1 : (decide (55296 ≤ c) && decide (c ≤ 56319)) = false := by simp; omega
        have e2 : (decide (56320 ≤ c) && decide (c ≤ 57343)) = false := by simp; omega
        rw [e1] at CH
        rw [e2] at CL
        clear e1 e2
        by_cases h5 : c ≤ 65535
        · have HU : Aside0 (u8 c = [224 + c / 4096, 128 + c / 64 % 64, 128 + c % 64]) := ⟨Lib.encodeRuneZ_three (by omega)⟩
          have hd3 : decide (c < 65536) = true := by simp; omega
          have q1 : 0 ≤ c / 4096 ∧ c / 4096 ≤ 15 := by omega
          have q2 : 0 ≤ c / 64 % 64 ∧ c / 64 % 64 ≤ 63 := by omega
          have q3 : 0 ≤ c % 64 ∧ c % 64 ≤ 63 := by omega
          have q4 : 0 ≤ c / 64 := by omega
          clear h3
          go_enter Tryd.func46, Tryd.ntmps46
          go_wp2_with (first
            | (at_builtin; refine app_b2 rfl _ _ rfl [224 + c / 4096, 128 + c / 64 % 64, 128 + c % 64] _ rfl rfl (by simp) HR HB hB (HN 3 (by decide)) rfl _ rfl rfl ?_; intro v1 w1 R1 B1 S1)
            | (go_at_call 44; refine (CH.out _).mono ?_; rintro e w2 ⟨rfl, rfl⟩)
            | (go_at_call 45; refine (CL.out _).mono ?_; rintro e w2 ⟨rfl, rfl⟩))
          refine bodyPost_ret (results_tmp rfl _ _ _) rfl ?_
          exact ⟨_, rfl, by rw [HU.out]; exact R1, B1, S1⟩
        · have HU : Aside0 (u8 c = [240 + c / 262144, 128 + c / 4096 % 64, 128 + c / 64 % 64, 128 + c % 64]) := ⟨by unfold u8 Lib.encodeRuneZ; rw [if_neg (by omega), if_neg (by omega), if_neg (by omega), if_pos (by omega)]⟩
          have hd3 : decide (c < 65536) = false := by simp; omega
          have q0 : 0 ≤ c / 262144 ∧ c / 262144 ≤ 4 := by omega
          have q1 : 0 ≤ c / 4096 % 64 ∧ c / 4096 % 64 ≤ 63 := by omega
          have q2 : 0 ≤ c / 64 % 64 ∧ c / 64 % 64 ≤ 63 := by omega
          have q3 : 0 ≤ c % 64 ∧ c % 64 ≤ 63 := by omega
          have q4 : 0 ≤ c / 64 := by omega
          have q5 : 0 ≤ c / 4096 := by omega
          clear h3
          go_enter Tryd.func46, Tryd.ntmps46
          go_wp2_with (first
            | (at_builtin; refine app_b2 rfl _ _ rfl [240 + c / 262144, 128 + c / 4096 % 64, 128 + c / 64 % 64, 128 + c % 64] _ rfl rfl (by simp) HR HB hB (HN 4 (by decide)) rfl _ rfl rfl ?_; intro v1 w1 R1 B1 S1)
            | (go_at_call 44; refine (CH.out _).mono ?_; rintro e w2 ⟨rfl, rfl⟩)
            | (go_at_call 45; refine (CL.out _).mono ?_; rintro e w2 ⟨rfl, rfl⟩))
          refine bodyPost_ret (results_tmp rfl _ _ _) rfl ?_
          exact ⟨_, rfl, by rw [HU.out]; exact R1, B1, S1⟩
end Go.Proofs.YtpahejmkidhhhaaDoor.G
end

section
namespace Go.Proofs.YtpahejmkidhhhaaDoor.G
set_option linter.unusedVariables false
set_option linter.unusedSimpArgs false
open Go.RowKit Go.Proofs.YtpahejmkidhhhaaDoorW.PrintWords

theorem at_byte (s : ByteArray) : ∀ i (hi : i < s.size), (bytesOf s).getD i 0 = ((s[i]'hi).toNat : Int) := by
  intro i hi
  have h2 : i < s.data.toList.length := by simpa using hi
  unfold bytesOf
  rw [List.getD_eq_getElem?_getD, List.getElem?_map, List.getElem?_eq_getElem h2]
  simp
  rfl
theorem hexv_calls (x : Int) (hx : isHx x = true) (w : World) : Calls Tryd.prog 62 #[.int .u8 x] w (fun e w' => e = .returned (.tuple #[.int .i64 (hexv x), .bool true]) ∧ w = w') := by
  have h : (48 ≤ x ∧ x ≤ 57) ∨ (97 ≤ x ∧ x ≤ 102) ∨ (65 ≤ x ∧ x ≤ 70) := by
    unfold isHx at hx
    simp only [Bool.or_eq_true, Bool.and_eq_true, decide_eq_true_eq] at hx
    omega
  rcases h with ⟨h1, h2⟩ | ⟨h1, h2⟩ | ⟨h1, h2⟩
  · have HV : Aside0 (hexv x = x - 48) := ⟨by unfold hexv; rw [if_pos ⟨h1, h2⟩]⟩
    clear hx
    go_enter Tryd.func62, Tryd.ntmps62
    go_wp2
    go_ret2
    exact ⟨by rw [HV.out]; rfl, rfl⟩
  · have HV : Aside0 (hexv x = x - 87) := ⟨by unfold hexv; rw [if_neg (by omega), if_neg (by omega), if_pos ⟨h1, h2⟩]⟩
    have h3 : ¬ x ≤ 57 := by omega
    have h4 : 48 ≤ x := by omega
    clear hx
    go_enter Tryd.func62, Tryd.ntmps62
    go_wp2
    go_ret2
    exact ⟨by rw [HV.out]; show Ending.returned (.tuple #[.int .i64 (x - 97 + 10), .bool true]) = _; rw [show x - 97 + 10 = x - 87 by omega], rfl⟩
  · have HV : Aside0 (hexv x = x - 55) := ⟨by unfold hexv; rw [if_neg (by omega), if_pos ⟨h1, h2⟩]⟩
    have h3 : ¬ x ≤ 57 := by omega
    have h4 : 48 ≤ x := by omega
    have h5 : ¬ 97 ≤ x := by omega
    clear hx
    go_enter Tryd.func62, Tryd.ntmps62
    go_wp2
    go_ret2
    exact ⟨by rw [HV.out]; show Ending.returned (.tuple #[.int .i64 (x - 65 + 10), .bool true]) = _; rw [show x - 65 + 10 = x - 55 by omega], rfl⟩
def UnitR (n : Int) (ok : Bool) (w : World) (e : Ending) (w' : World) : Prop := e = .returned (.tuple #[.int .i64 n, .bool ok]) ∧ w = w'
set_option maxHeartbeats 4000000 in
set_option maxRecDepth 100000 in
theorem unit_no (S : ByteArray) (k : Nat) (w : World) (hk : k ≤ S.size) (hs : S.size ≤ 140737488351232) (h : S.size < k + 6 ∨ (bytesOf S).getD k 0 ≠ 92 ∨ (bytesOf S).getD (k + 1) 0 ≠ 117) : Calls Tryd.prog 42 #[.string S, .int .i64 (k : Int)] w (UnitR 0 false w) := by
  by_cases h6 : S.size < k + 6
  · have hd : decide ((S.size : Int) - (k : Int) < 6) = true := by simp; omega
    go_enter Tryd.func42, Tryd.ntmps42
    go_wp2
    go_ret2
    exact ⟨rfl, rfl⟩
  · have hd : decide ((S.size : Int) - (k : Int) < 6) = false := by simp; omega
    have hk1 : k < S.size := by omega
    have hk2 : k + 1 < S.size := by omega
    have e0 := at_byte S k hk1
    have e1 := at_byte S (k + 1) hk2
    by_cases h0 : (bytesOf S).getD k 0 = 92
    · have h1 : (bytesOf S).getD (k + 1) 0 ≠ 117 := by omega
      have b0 : ((S[k]'hk1).toNat : Int) = 92 := by omega
      have b1 : (((S[k + 1]'hk2).toNat : Int) != 117) = true := by simp; omega
      clear h0 h1 e0 e1 h
      go_enter Tryd.func42, Tryd.ntmps42
      go_wp2
      go_ret2
      exact ⟨rfl, rfl⟩
    · have b0 : (((S[k]'hk1).toNat : Int) != 92) = true := by simp; omega
      clear h0 e0 e1 h
      go_enter Tryd.func42, Tryd.ntmps42
      go_wp2
      go_ret2
      exact ⟨rfl, rfl⟩
def hvs (R : List Int) (i : Nat) : Nat → Int
  | 0 => 0
  | j + 1 => hvs R i j * 16 + hexv (R.getD (i + j) 0)
theorem hvs_bd {R : List Int} {i : Nat} (h : ∀ j, j < 4 → isHx (R.getD (i + j) 0) = true) : (0 ≤ hvs R i 0 ∧ hvs R i 0 ≤ 0) ∧ (0 ≤ hvs R i 1 ∧ hvs R i 1 ≤ 15) ∧ (0 ≤ hvs R i 2 ∧ hvs R i 2 ≤ 255) ∧ (0 ≤ hvs R i 3 ∧ hvs R i 3 ≤ 4095) ∧ (0 ≤ hvs R i 4 ∧ hvs R i 4 ≤ 65535) := by
  have h0 := hexv_bd (h 0 (by omega))
  have h1 := hexv_bd (h 1 (by omega))
  have h2 := hexv_bd (h 2 (by omega))
  have h3 := hexv_bd (h 3 (by omega))
  simp only [hvs]
  omega
theorem hvs_4 (R : List Int) (i : Nat) : hvs R i 4 = h4v R i := by
  simp only [hvs, h4v, Nat.add_zero]
  omega
set_option maxHeartbeats 4000000 in
set_option maxRecDepth 100000 in
theorem unit_yes (S : ByteArray) (k : Nat) (w : World) (hk : k + 6 ≤ S.size) (hs : S.size ≤ 140737488351232) (h0 : (bytesOf S).getD k 0 = 92) (h1 : (bytesOf S).getD (k + 1) 0 = 117) (hx : ∀ j, j < 4 → isHx ((bytesOf S).getD (k + 2 + j) 0) = true) : Calls Tryd.prog 42 #[.string S, .int .i64 (k : Int)] w (UnitR (h4v (bytesOf S) (k + 2)) true w) := by
  have hd : decide ((S.size : Int) - (k : Int) < 6) = false := by simp; omega
  have hk1 : k < S.size := by omega
  have hk2 : k + 1 < S.size := by omega
  have e0 := at_byte S k hk1
  have e1 := at_byte S (k + 1) hk2
  have b0 : ((S[k]'hk1).toNat : Int) = 92 := by omega
  have b1 : ((S[k + 1]'hk2).toNat : Int) = 117 := by omega
  have HX := Aside0.mk hx
  have HV := Aside0.mk (hvs_bd hx)
  clear e0 e1 h0 h1 hx
  go_enter Tryd.func42, Tryd.ntmps42
  go_wp2_with fail
  go_loop [6, 7] (fun v6 v7 => ∃ j : Nat, j ≤ 4 ∧ v6 = .int .i64 (hvs (bytesOf S) (k + 2) j) ∧ v7 = .int .i64 ((k + 2 + j : Nat) : Int)) (fun _ v7 => k + 6 - (intOf v7).toNat)
  case atStart => exact ⟨0, by omega, rfl, by go_num⟩
  case round =>
    obtain ⟨j, hj, rfl, rfl⟩ := hrel
    by_cases hlt : j < 4
    · have hjs : k + 2 + j < S.size := by omega
      have hxj := HX.out j hlt
      have ej := at_byte S (k + 2 + j) hjs
      have hvb : 0 ≤ hvs (bytesOf S) (k + 2) j ∧ hvs (bytesOf S) (k + 2) j ≤ 4095 := by
        have hb := HV.out
        have : j = 0 ∨ j = 1 ∨ j = 2 ∨ j = 3 := by omega
        rcases this with rfl | rfl | rfl | rfl <;> omega
      have hxb := hexv_bd hxj
      have hsucc : hvs (bytesOf S) (k + 2) (j + 1) = hvs (bytesOf S) (k + 2) j * 16 + hexv ((bytesOf S).getD (k + 2 + j) 0) := rfl
      rw [ej] at hxj hxb hsucc
      have C := Aside0.mk (fun W => hexv_calls _ hxj W)
      obtain ⟨V, hV⟩ : ∃ V, V = hvs (bytesOf S) (k + 2) j := ⟨_, rfl⟩
      obtain ⟨X, hX⟩ : ∃ X, X = hexv ((S[k + 2 + j]'hjs).toNat : Int) := ⟨_, rfl⟩
      rw [← hV, ← hX] at hsucc
      rw [← hV] at hvb ⊢
      rw [← hX] at hxb C
      have HS := Aside0.mk hsucc
      have hlt2 : ((k + 2 + j : Nat) : Int) < (k : Int) + 6 := by omega
      clear hV hX hxj ej hsucc
      go_wp2_with (go_at_call 62; refine (C.out _).mono ?_; rintro e w' ⟨rfl, rfl⟩)
      go_round
      case rel => exact ⟨j + 1, by omega, by rw [HS.out], by go_num⟩
      case measure => simp [intOf]; omega
    · obtain rfl : j = 4 := by omega
      have hge : ¬ ((k + 2 + 4 : Nat) : Int) < (k : Int) + 6 := by omega
      go_wp2_with fail
      go_ret2
      exact ⟨by rw [← hvs_4]; rfl, rfl⟩
def UnqA (u : List Int) (w : World) (e : Ending) (w' : World) : Prop := ∃ s : ByteArray, e = .returned (.string s) ∧ Aside0 (bytesOf s = u) ∧ Below w.heap.size w w'
theorem u8_ok (r : Int) (h0 : 0 ≤ r) (h1 : r ≤ 1114111) : Bytes (u8 r) ∧ (u8 r).length ≤ 4 := by
  unfold u8 Lib.encodeRuneZ
  split
  · exact ⟨fun x hx => by simp at hx; omega, by simp⟩
  · split
    · exact ⟨fun x hx => by simp at hx; omega, by simp⟩
    · split
      · exact ⟨fun x hx => by simp at hx; omega, by simp⟩
      · split
        · exact ⟨fun x hx => by simp at hx; omega, by simp⟩
        · exact ⟨fun x hx => by simp at hx; omega, by simp⟩
theorem shortc_ok {c : Int} (h : 0 ≤ c ∧ c < 256) : 0 ≤ shortc c ∧ shortc c < 256 := by
  unfold shortc
  repeat' split
  all_goals omega
theorem nums_back {xs : List Int} (h : ∀ x ∈ xs, 0 ≤ x ∧ x < 256) : bytesOf (strOfNums xs) = xs := by
  unfold bytesOf strOfNums
  simp only [List.map_map]
  conv => rhs; rw [← List.map_id xs]
  apply List.map_congr_left
  intro x hx
  have := h x hx
  simp only [Function.comp, id]
  rw [UInt8.toNat_ofNat', Nat.mod_eq_of_lt (by omega)]
  omega
set_option maxHeartbeats 16000000 in
set_option maxRecDepth 100000 in
theorem unq_calls (Q : ByteArray) (R u : List Int) (w : World) (hQ : Q.size ≤ 2147483647) (hR : bytesOf Q = 34 :: (R ++ [34])) (hq : quo (R ++ [34]) = some (R.length + 1)) (hu : ue R = some u) : Calls Tryd.prog 30 #[.string Q] w (UnqA u w) := by
  obtain ⟨d, hd⟩ : ∃ d, Q.size = d + 2 := ⟨Q.size - 2, by
    have := congrArg List.length hR
    rw [bytesOf_length] at this
    simp at this
    omega⟩
  have hRl : R.length = d := by
    have := congrArg List.length hR
    rw [bytesOf_length, hd] at this
    simpa using this.symm
  obtain ⟨S, hS⟩ : ∃ S, S = Q.extract 1 (Q.size - 1) := ⟨_, rfl⟩
  have hSR : bytesOf S = R := by
    rw [hS, ext_list]
    unfold rest
    rw [hR, List.drop_succ_cons, List.drop_zero, hd, show d + 2 - 1 - 1 = R.length by omega, List.take_left']
    rfl
  have hSs : S.size = d := by rw [← bytesOf_length, hSR, hRl]
  have hSs2 : S.size ≤ 2147483647 := by omega
  have hqd : 2 ≤ Q.size := by omega
  have HQS := Aside0.mk hS
  have HSR := Aside0.mk hSR
  have HSS := Aside0.mk hSs
  have HRL := Aside0.mk hRl
  have HQ := Aside0.mk hq
  have HU := Aside0.mk hu
  have R0 : Aside0 (BRow w w.heap.size (.slice none 0 0) []) := ⟨own_nil w w.heap.size 5 1⟩
  have B0 : Aside0 (Below w.heap.size w w) := ⟨Below.refl _ _⟩
  have hext : Q.extract 1 (Q.size - 1) = S := hS.symm
  clear hS hSR hSs hRl hq hu hR hd
  go_enter Tryd.func30, Tryd.ntmps30
  go_wp2_with fail
  clear hext
  go_loopw [3, 5] (fun v3 v5 wr => ∃ (k : Nat) (out v : List Int), v5 = .int .i64 (k : Int) ∧ k ≤ S.size ∧ Aside0 (BRow wr w.heap.size v3 out) ∧ Aside0 (Bytes out) ∧ out.length ≤ k ∧ Aside0 (Below w.heap.size w wr) ∧ Aside0 (quo ((R ++ [34]).drop k) = some (S.size + 1 - k)) ∧ Aside0 (ue (R.drop k) = some v) ∧ Aside0 (out ++ v = u)) (fun _ i _ => S.size - (intOf i).toNat)
  case atStart => exact ⟨0, [], u, rfl, Nat.zero_le _, R0, ⟨fun x hx => by simp at hx⟩, by simp, B0, ⟨by rw [List.drop_zero, HQ.out, HRL.out, HSS.out]; rfl⟩, ⟨by rw [List.drop_zero]; exact HU.out⟩, ⟨rfl⟩⟩
  case round =>
    clear R0 B0 HU HQ
    obtain ⟨k, out, v, rfl, hk, HR, HY, hlo, HB, HK, HV, HO⟩ := hrel
    have hSz : Aside0 (w.heap.size ≤ wr.heap.size) := ⟨HB.out.size⟩
    have HN : ∀ m, m ≤ 100 → Aside0 (out.length + m ≤ 1099511627000) := fun m hm => ⟨by omega⟩
    by_cases hlt : k < S.size
    · have hRS : R.length = S.size := by rw [HRL.out, HSS.out]
      have hbk := at_byte S k hlt
      rw [HSR.out] at hbk
      have hxb : 0 ≤ ((S[k]'hlt).toNat : Int) ∧ ((S[k]'hlt).toNat : Int) < 256 := by have := (S[k]'hlt).toNat_lt; omega
      rcases unq_step hRS hlt HK.out with ⟨h92, hq1, hu1⟩ | ⟨h92, hes, hk2, hq1, hu1⟩ | ⟨h92, h117, hk6, hx4, hpair⟩
      · have hb : (((S[k]'hlt).toNat : Int) != 92) = true := by rw [← hbk]; simpa using h92
        rw [HV.out, hbk] at hu1
        cases hv1 : ue (R.drop (k + 1)) with
        | none => rw [hv1] at hu1; cases hu1
        | some v1 =>
          rw [hv1] at hu1
          simp only [Option.map_some, Option.some.injEq] at hu1
          have HV1 := Aside0.mk hv1
          have HK1 := Aside0.mk hq1
          have HU1 := Aside0.mk hu1
          have HXB := Aside0.mk hxb
          clear hv1 hq1 hu1 h92 hbk hRS hxb
          as_aux_lemma =>
          go_wp2_with (at_builtin; refine app_b2 rfl _ _ rfl [((S[k]'hlt).toNat : Int)] _ rfl rfl (by simp) HR HB hSz (HN 1 (by decide)) rfl _ rfl rfl ?_; intro v1' w1 R1 B1 S1)
          go_roundw
          case rel => exact ⟨k + 1, out ++ [((S[k]'hlt).toNat : Int)], v1, by go_num, by omega, R1, ⟨Bytes.app HY.out (fun x hx => by simp at hx; subst hx; exact HXB.out)⟩, by simp; omega, B1, HK1, HV1, ⟨by rw [List.append_assoc, List.singleton_append, ← HU1.out]; exact HO.out⟩⟩
          case measure => simp [intOf]; omega
      · have hk1 : k + 1 < S.size := by omega
        have hb : ((S[k]'hlt).toNat : Int) = 92 := by rw [← hbk]; exact h92
        have hbk1 := at_byte S (k + 1) hk1
        rw [HSR.out] at hbk1
        have hxb1 : 0 ≤ ((S[k + 1]'hk1).toNat : Int) ∧ ((S[k + 1]'hk1).toNat : Int) < 256 := by have := (S[k + 1]'hk1).toNat_lt; omega
        have h117n : R.getD (k + 1) 0 ≠ 117 := fun h => by rw [h] at hes; cases hes
        have CU := Aside0.mk (fun W => unit_no S k W hk (by omega) (.inr (.inr (by rw [HSR.out]; exact h117n))))
        unfold UnitR at CU
        rw [HV.out, hbk1] at hu1
        have CS := Aside0.mk (fun W => short_calls ((S[k + 1]'hk1).toNat : Int) hxb1 W)
        have hso := shortc_ok hxb1
        generalize shortc ((S[k + 1]'hk1).toNat : Int) = sc at hu1 CS hso
        cases hv1 : ue (R.drop (k + 2)) with
        | none => rw [hv1] at hu1; cases hu1
        | some v1 =>
          rw [hv1] at hu1
          simp only [Option.map_some, Option.some.injEq] at hu1
          have HV1 := Aside0.mk hv1
          have HK1 := Aside0.mk hq1
          have HU1 := Aside0.mk hu1
          have HXB := Aside0.mk hso
          clear hv1 hq1 hu1 h92 hbk hRS hxb hbk1 hes h117n hso
          as_aux_lemma =>
          go_wp2_with (first
            | (at_builtin; refine app_b2 rfl _ _ rfl [sc] _ rfl rfl (by simp) HR HB hSz (HN 1 (by decide)) rfl _ rfl rfl ?_; intro v1' w1 R1 B1 S1)
            | (go_at_call 42; refine (CU.out _).mono ?_; rintro e w' ⟨rfl, rfl⟩)
            | (go_at_call 43; refine (CS.out _).mono ?_; rintro e w' ⟨rfl, rfl⟩))
          go_roundw
          case rel => exact ⟨k + 2, out ++ [sc], v1, by go_num, by omega, R1, ⟨Bytes.app HY.out (fun x hx => by simp at hx; subst hx; exact HXB.out)⟩, by simp; omega, B1, HK1, HV1, ⟨by rw [List.append_assoc, List.singleton_append, ← HU1.out]; exact HO.out⟩⟩
          case measure => simp [intOf]; omega
      · have hb : ((S[k]'hlt).toNat : Int) = 92 := by rw [← hbk]; exact h92
        have hbd := hvs_bd hx4
        have hr0 : 0 ≤ h4v R (k + 2) ∧ h4v R (k + 2) ≤ 65535 := by rw [← hvs_4]; exact hbd.2.2.2.2
        have CU := Aside0.mk (fun W => unit_yes S k W hk6 (by omega) (by rw [HSR.out]; exact h92) (by rw [HSR.out]; exact h117) (by rw [HSR.out]; exact hx4))
        rw [HSR.out] at CU
        unfold UnitR at CU
        have CH := Aside0.mk (fun W => high_calls (h4v R (k + 2)) W)
        rcases hpair with ⟨hnp, hq1, hu1, hnx⟩ | ⟨hp, hq1, hu1⟩
        · obtain ⟨r, hr⟩ : ∃ r, r = h4v R (k + 2) := ⟨_, rfl⟩
          rw [HV.out, ← hr] at hu1
          cases hv1 : ue (R.drop (k + 6)) with
          | none => rw [hv1] at hu1; cases hu1
          | some v1 =>
            rw [hv1] at hu1
            simp only [Option.map_some, Option.some.injEq] at hu1
            have HV1 := Aside0.mk hv1
            have HK1 := Aside0.mk hq1
            have HU1 := Aside0.mk hu1
            rw [← hr] at hr0 CU CH
            have HU8 := Aside0.mk (u8_ok r hr0.1 (by omega))
            have hca : (k : Int) + 6 = ((k + 6 : Nat) : Int) := by push_cast; rfl
            by_cases hno : S.size < k + 12 ∨ R.getD (k + 6) 0 ≠ 92 ∨ R.getD (k + 7) 0 ≠ 117
            · have CN := Aside0.mk (fun W => unit_no S (k + 6) W hk6 (by omega) (by rw [HSR.out]; omega))
              unfold UnitR at CN
              rw [← hca] at CN
              clear hv1 hq1 hu1 h92 hbk hRS hxb h117 hx4 hbd hr hno hnx hnp hca
              as_aux_lemma =>
              go_wp2_with (first
                | (go_at_call 46; refine (ap8_calls _ out w.heap.size r w _ hr0.1 (by omega) HR HB hSz (by omega)).mono ?_; rintro e w1 ⟨v1', rfl, R1, B1, S1⟩)
                | (go_at_call 42; with_reducible refine (CN.out _).mono ?_; rintro e w' ⟨rfl, rfl⟩)
                | (go_at_call 42; refine (CU.out _).mono ?_; rintro e w' ⟨rfl, rfl⟩))
              go_roundw
              case rel => exact ⟨k + 6, out ++ G.u8 r, v1, by go_num, by omega, R1, ⟨Bytes.app HY.out HU8.out.1⟩, by have := HU8.out.2; rw [List.length_append]; omega, B1, HK1, HV1, ⟨by rw [List.append_assoc, ← HU1.out]; exact HO.out⟩⟩
              case measure => simp [intOf]; omega
            · have hno' : k + 12 ≤ S.size ∧ R.getD (k + 6) 0 = 92 ∧ R.getD (k + 7) 0 = 117 := by omega
              obtain ⟨g12, gx⟩ := hnx hno'.2.1 hno'.2.2 (by omega)
              have hbd2 := hvs_bd gx
              have hs0 : 0 ≤ h4v R (k + 8) ∧ h4v R (k + 8) ≤ 65535 := by rw [← hvs_4]; exact hbd2.2.2.2.2
              have CN := Aside0.mk (fun W => unit_yes S (k + 6) W g12 (by omega) (by rw [HSR.out]; exact hno'.2.1) (by rw [HSR.out]; exact hno'.2.2) (by rw [HSR.out]; exact gx))
              rw [HSR.out, ← hca] at CN
              unfold UnitR at CN
              have CL := Aside0.mk (fun W => low_calls (h4v R (k + 8)) W)
              have hnp2 : ¬ ((55296 ≤ r ∧ r ≤ 56319) ∧ (56320 ≤ h4v R (k + 8) ∧ h4v R (k + 8) ≤ 57343)) := fun hh => hnp ⟨by rw [← hr]; exact hh.1, hno'.2.1, hno'.2.2, by omega, gx, hh.2⟩
              obtain ⟨s2, hs2⟩ : ∃ s2, s2 = h4v R (k + 8) := ⟨_, rfl⟩
              have CN : Aside0 (∀ W, Calls Tryd.prog 42 #[.string S, .int .i64 ((k : Int) + 6)] W fun e w' => e = .returned (.tuple #[.int .i64 s2, .bool true]) ∧ W = w') := by rw [hs2]; exact CN
              rw [← hs2] at CL hs0 hnp2
              by_cases hhi : 55296 ≤ r ∧ r ≤ 56319
              · have e1 : (decide (55296 ≤ r) && decide (r ≤ 56319)) = true := by simp; omega
                have e2 : (decide (56320 ≤ s2) && decide (s2 ≤ 57343)) = false := by simp; omega
                rw [e1] at CH
                rw [e2] at CL
                clear hv1 hq1 hu1 h92 hbk hRS hxb h117 hx4 hbd hbd2 hr hs2 hno hno' hnx hnp hnp2 hca e1 e2 hhi gx
                as_aux_lemma =>
                go_wp2_with (first
                  | (go_at_call 46; refine (ap8_calls _ out w.heap.size r w _ hr0.1 (by omega) HR HB hSz (by omega)).mono ?_; rintro e w1 ⟨v1', rfl, R1, B1, S1⟩)
                  | (go_at_call 44; refine (CH.out _).mono ?_; rintro e w' ⟨rfl, rfl⟩)
                  | (go_at_call 45; refine (CL.out _).mono ?_; rintro e w' ⟨rfl, rfl⟩)
                  | (go_at_call 42; with_reducible refine (CN.out _).mono ?_; rintro e w' ⟨rfl, rfl⟩)
                  | (go_at_call 42; refine (CU.out _).mono ?_; rintro e w' ⟨rfl, rfl⟩))
                go_roundw
                case rel => exact ⟨k + 6, out ++ G.u8 r, v1, by go_num, by omega, R1, ⟨Bytes.app HY.out HU8.out.1⟩, by have := HU8.out.2; rw [List.length_append]; omega, B1, HK1, HV1, ⟨by rw [List.append_assoc, ← HU1.out]; exact HO.out⟩⟩
                case measure => simp [intOf]; omega
              · have e1 : (decide (55296 ≤ r) && decide (r ≤ 56319)) = false := by simp; omega
                rw [e1] at CH
                clear hv1 hq1 hu1 h92 hbk hRS hxb h117 hx4 hbd hbd2 hr hs2 hno hno' hnx hnp hnp2 hca e1 hhi gx CL
                as_aux_lemma =>
                go_wp2_with (first
                  | (go_at_call 46; refine (ap8_calls _ out w.heap.size r w _ hr0.1 (by omega) HR HB hSz (by omega)).mono ?_; rintro e w1 ⟨v1', rfl, R1, B1, S1⟩)
                  | (go_at_call 44; refine (CH.out _).mono ?_; rintro e w' ⟨rfl, rfl⟩)
                  | (go_at_call 42; with_reducible refine (CN.out _).mono ?_; rintro e w' ⟨rfl, rfl⟩)
                  | (go_at_call 42; refine (CU.out _).mono ?_; rintro e w' ⟨rfl, rfl⟩))
                go_roundw
                case rel => exact ⟨k + 6, out ++ G.u8 r, v1, by go_num, by omega, R1, ⟨Bytes.app HY.out HU8.out.1⟩, by have := HU8.out.2; rw [List.length_append]; omega, B1, HK1, HV1, ⟨by rw [List.append_assoc, ← HU1.out]; exact HO.out⟩⟩
                case measure => simp [intOf]; omega
        · have hca : (k : Int) + 6 = ((k + 6 : Nat) : Int) := by push_cast; rfl
          have hp12 : k + 12 ≤ S.size := by have := hp.len; omega
          have CN := Aside0.mk (fun W => unit_yes S (k + 6) W hp12 (by omega) (by rw [HSR.out]; exact hp.c6) (by rw [HSR.out]; exact hp.c7) (by rw [HSR.out]; exact hp.hx))
          rw [HSR.out, ← hca] at CN
          unfold UnitR at CN
          have CL := Aside0.mk (fun W => low_calls (h4v R (k + 8)) W)
          have hp1 := hp.hi
          have hp2 := hp.lo
          obtain ⟨s2, hs2⟩ : ∃ s2, s2 = h4v R (k + 8) := ⟨_, rfl⟩
          obtain ⟨r, hr⟩ : ∃ r, r = h4v R (k + 2) := ⟨_, rfl⟩
          have CN : Aside0 (∀ W, Calls Tryd.prog 42 #[.string S, .int .i64 ((k : Int) + 6)] W fun e w' => e = .returned (.tuple #[.int .i64 s2, .bool true]) ∧ W = w') := by rw [hs2]; exact CN
          rw [← hs2] at CL hp2 hu1
          rw [← hr] at CU CH hp1 hu1
          have e1 : (decide (55296 ≤ r) && decide (r ≤ 56319)) = true := by simp; omega
          have e2 : (decide (56320 ≤ s2) && decide (s2 ≤ 57343)) = true := by simp; omega
          rw [e1] at CH
          rw [e2] at CL
          rw [HV.out] at hu1
          have hyb : 0 ≤ 65536 + (r - 55296) * 1024 + (s2 - 56320) ∧ 65536 + (r - 55296) * 1024 + (s2 - 56320) ≤ 1114111 := by omega
          have HU8 := Aside0.mk (u8_ok _ hyb.1 hyb.2)
          have HYB := Aside0.mk hyb
          cases hv1 : ue (R.drop (k + 12)) with
          | none => rw [hv1] at hu1; cases hu1
          | some v1 =>
            rw [hv1] at hu1
            simp only [Option.map_some, Option.some.injEq] at hu1
            have HV1 := Aside0.mk hv1
            have HK1 := Aside0.mk hq1
            have HU1 := Aside0.mk hu1
            have ha1 : 0 ≤ r - 55296 ∧ r - 55296 ≤ 1023 := by omega
            have ha2 : 0 ≤ (r - 55296) * 1024 ∧ (r - 55296) * 1024 ≤ 1047552 := by omega
            have ha3 : 0 ≤ s2 - 56320 ∧ s2 - 56320 ≤ 1023 := by omega
            clear hv1 hq1 hu1 h92 hbk hRS hxb h117 hx4 hbd hr hs2 hp hca e1 e2 hr0 hyb
            as_aux_lemma =>
            go_wp2_with (first
              | (go_at_call 46; refine (ap8_calls _ out w.heap.size (65536 + (r - 55296) * 1024 + (s2 - 56320)) w _ HYB.out.1 HYB.out.2 HR HB hSz (by omega)).mono ?_; rintro e w1 ⟨v1', rfl, R1, B1, S1⟩)
              | (go_at_call 44; refine (CH.out _).mono ?_; rintro e w' ⟨rfl, rfl⟩)
              | (go_at_call 45; refine (CL.out _).mono ?_; rintro e w' ⟨rfl, rfl⟩)
              | (go_at_call 42; with_reducible refine (CN.out _).mono ?_; rintro e w' ⟨rfl, rfl⟩)
              | (go_at_call 42; refine (CU.out _).mono ?_; rintro e w' ⟨rfl, rfl⟩))
            go_roundw
            case rel => exact ⟨k + 12, out ++ G.u8 (65536 + (r - 55296) * 1024 + (s2 - 56320)), v1, by go_num, by omega, R1, ⟨Bytes.app HY.out HU8.out.1⟩, by have := HU8.out.2; rw [List.length_append]; omega, B1, HK1, HV1, ⟨by rw [List.append_assoc, ← HU1.out]; exact HO.out⟩⟩
            case measure => simp [intOf]; omega
    · obtain rfl : k = S.size := by omega
      have hdn : R.drop S.size = [] := List.drop_eq_nil_of_le (by rw [HRL.out, HSS.out]; omega)
      have hv := HV.out
      rw [hdn, ue_nil] at hv
      simp only [Option.some.injEq] at hv
      have HV2 := Aside0.mk hv
      clear hv hdn
      have HO2 : out = u := by have := HO.out; rw [← HV2.out] at this; simpa using this
      subst HO2
      have R2 := HR.out
      unfold BRow at R2
      generalize out.length = nn at R2
      obtain ⟨A, c, rfl⟩ := own_slice R2
      have kc := own_string (P := Tryd.prog) Tryd.underlying54 Tryd.underlying5 Tryd.underlying9 R2
      clear R2
      go_wp2_with fail
      go_ret
      exact ⟨_, rfl, ⟨nums_back HY.out⟩, HB.out⟩
end Go.Proofs.YtpahejmkidhhhaaDoor.G
end
