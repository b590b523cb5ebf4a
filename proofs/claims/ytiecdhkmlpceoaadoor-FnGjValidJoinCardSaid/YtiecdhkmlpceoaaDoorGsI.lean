/- gjson's AppendJSONString: a text as a JSON string. -/
import Derived.Test.YtiecdhkmlpceoaaDoorGsH
import Derived.Test.YtiecdhkmlpceoaaDoorGvP
import Derived.Test.YtiecdhkmlpceoaaDoorGvSj
namespace Go.Proofs.YtiecdhkmlpceoaaDoor.G
set_option linter.unusedVariables false
set_option linter.unusedSimpArgs false
open Go.RowKit Go.Proofs.YtiecdhkmlpceoaaDoorW.PrintWords
open Go.Lib (decodeL)

theorem decGo {T : ByteArray} (h : 0 < T.size) : Lib.decodeGo T = decodeL T.data.toList := by
  unfold Lib.decodeGo
  rw [if_neg (by omega)]
  have := Go.Lib.decodeL_drop T 0
  rw [List.drop_zero] at this
  exact this.symm
theorem chr_high {b : UInt8} {l : List UInt8} (hb : 128 ≤ b.toNat) (h : badHead (b :: l) = false) : (∀ c ∈ (b :: l).take (decodeL (b :: l)).2, 128 ≤ c.toNat) ∧ 1 ≤ (decodeL (b :: l)).2 ∧ (decodeL (b :: l)).2 ≤ l.length + 1 := by
  obtain ⟨h1, h2, h3⟩ := chr_head (by simp) h
  have hpos : 1 ≤ (decodeL (b :: l)).2 := by
    rcases Nat.eq_zero_or_pos (decodeL (b :: l)).2 with e | e
    · rw [e] at h1; exact absurd rfl h1.1
    · exact e
  refine ⟨?_, hpos, by simpa using h3⟩
  obtain ⟨n, hn⟩ : ∃ n, (decodeL (b :: l)).2 = n + 1 := ⟨(decodeL (b :: l)).2 - 1, by omega⟩
  rw [hn, List.take_succ_cons] at h1 ⊢
  rcases chr_shape h1 with ⟨a, e, ha⟩ | ⟨a, c, e, ha, hc⟩ | ⟨a, c, d, e, ha, hc, hd⟩ | ⟨a, c, d, f, e, ha, hc, hd, hf⟩
  · injection e with e1 e2; subst e1; omega
  · rw [e]; intro x hx; simp at hx; rcases hx with rfl | rfl <;> omega
  · rw [e]; intro x hx; simp at hx; rcases hx with rfl | rfl | rfl <;> omega
  · rw [e]; intro x hx; simp at hx; rcases hx with rfl | rfl | rfl | rfl <;> omega
theorem bytesOf_ok (s : ByteArray) : Bytes (bytesOf s) := by
  intro x hx
  obtain ⟨b, _, rfl⟩ := List.mem_map.1 hx
  have := b.toNat_lt
  omega
theorem Bytes.app {a b : List Int} (ha : Bytes a) (hb : Bytes b) : Bytes (a ++ b) := fun x hx => by
  rcases List.mem_append.1 hx with h | h
  · exact ha x h
  · exact hb x h
theorem BRow.re {w : World} {B : Nat} {v : Value} {xs ys : List Int} (h : BRow w B v xs) (e : xs = ys) : BRow w B v ys := e ▸ h
theorem zeros_row {W : World} {B cap : Nat} {cur : Array Value} (hB : B ≤ W.heap.size) (hc : cap ≤ maxLen) (hs : cur.size = cap) : BRow (W.alloc (.cells cur 5)) B (.slice (some ⟨W.heap.size, 0, none⟩) 0 cap) [] :=
  ⟨by simp [nums], .inr ⟨W.heap.size, cap, cur, rfl, hB, heap_alloc_new W _, Nat.zero_le _, hc, by rw [hs, Nat.mul_one], by simp [nums]⟩⟩
theorem zeros_run (w : World) (ty n : Nat) (h0 : 0 < n) (h1 : n ≤ 2199023255552) :
    (Builtin.append_ #[55, 3] ty #[.slice none 0 0, .int .i64 (n : Int)]).run Tryd.prog w =
      .ok (.slice (some ⟨w.heap.size, 0, none⟩) n (grownCap w n 0 5)) (w.drew.alloc (.cells (Builtin.zeroCells (Value.int .u8 0).cells n ++ Builtin.zeroCells (Value.int .u8 0).cells (grownCap w n 0 5 - n)) 5)) := by
  obtain ⟨i0, hi, hz0, hz1, hz2⟩ := parts_info inf5
  exact Lib.run_append_nil_zeros w 55 3 ty 5 i0 (.int .u8 0) .i64 .i64 Tryd.underlying55 Tryd.underlying3 hi hz0 n h0 (by rw [hz1]; decide) (by omega) (by rw [hz2]; omega)
/-- append(dst, bytes..), the bytes just built; the new block's number told. -/
theorem app_b2 {ops : Array Oper} {rest : List Oper} {o : Oper} {a : Act} {Q : Exit → Act → World → Prop} {W0 W : World} (hgd : o.guard = none) (sl x : Operand)
    (ho : o.op = .call { callee := .builtin .append, args := #[sl, x], argTypes := #[55, 55] })
    {B : Nat} {v : Value} {m cx : Nat} {xs : List Int} (cs : List Int) (cells : Array Value) (hcs : cells.toList = nums .u8 cs) (hm : m = cs.length) (h0 : 0 < cs.length) (HR : Aside0 (BRow W B v xs)) (HB : Aside0 (Below B W0 W)) (hB : Aside0 (B ≤ W.heap.size)) (hn : Aside0 (xs.length + cs.length ≤ 1099511627000))
    (hs : a.eval sl = v) (H : Nat) (hx : a.eval x = .slice (some ⟨H, 0, none⟩) m cx) (hH : H = W.heap.size)
    (hh : ∀ v' w1, Aside0 (BRow w1 B v' (xs ++ cs)) → Aside0 (Below B W0 w1) → Aside0 (B ≤ w1.heap.size) → wpList Tryd.prog ops Q rest (a.put o.dst v') w1) :
    wpList Tryd.prog ops Q (o :: rest) a (W.alloc (.cells cells 5)) := by
  subst hH
  exact app_by hgd sl x ho cs cells hcs hm h0 HR HB hB hn hs hx hh
theorem BRow.below {w w' : World} {B : Nat} {v : Value} {xs : List Int} (h : BRow w B v xs) (hb : Below w.heap.size w w') : BRow w' B v xs :=
  World.ownsRow.kept h (row := none) ⟨hb.os, hb.tape, hb.output, hb.size, fun k hk _ => hb.block k hk⟩ (by
    cases hv : v.ownBlock with
    | none => exact .inl rfl
    | some g => exact .inr (fun e => by cases e))
theorem Bytes.lit {l : List Int} (h : l.all (fun x => decide (0 ≤ x) && decide (x < 256)) = true) : Bytes l := fun x hx => by
  have := List.all_eq_true.1 h x hx
  simpa using this
/-- What is answered: a quoted string, in a row of the call's own. -/
def QRow (n : Nat) (w : World) (e : Ending) (w' : World) : Prop :=
  ∃ (v : Value) (b : List Int), e = .returned v ∧ BRow w' w.heap.size v (34 :: (b ++ [34])) ∧ QB b ∧ Bytes (34 :: (b ++ [34])) ∧ b.length ≤ 6 * n ∧ Below w.heap.size w w'
theorem toNat_ext (S : ByteArray) (k : Nat) (h : k < S.size) : (S.extract k S.size).data.toList = S[k] :: (S.data.toList.drop (k + 1)) := by
  have hl : k < S.data.toList.length := by simpa using h
  have e1 : (S.extract k S.size).data.toList = S.data.toList.drop k := by
    rw [ByteArray.data_extract, Array.toList_extract]
    have hs : S.data.toList.length = S.size := by simp
    rw [List.extract, List.take_of_length_le (by rw [List.length_drop, hs]; omega)]
  rw [e1, List.drop_eq_getElem_cons hl]
  rfl
theorem ext_high {S : ByteArray} {k n : Nat} (h : ∀ c ∈ (S.data.toList.drop k).take n, 128 ≤ c.toNat) : ∀ c ∈ bytesOf (S.extract k (k + n)), 128 ≤ c := by
  intro c hc
  have e1 : (S.extract k (k + n)).data.toList = (S.data.toList.drop k).take n := by
    rw [ByteArray.data_extract, Array.toList_extract, List.extract, Nat.add_sub_cancel_left]
  unfold bytesOf at hc
  rw [e1] at hc
  obtain ⟨b, hb, rfl⟩ := List.mem_map.1 hc
  have := h b hb
  omega
set_option maxHeartbeats 16000000 in
set_option maxRecDepth 100000 in
theorem quote_calls (S : ByteArray) (w : World) (hs : S.size ≤ 2147483647) (hT : HexT w) (hU : Lib.Utf8Tabs 2 3 w) : Calls Tryd.prog 32 #[.slice none 0 0, .string S] w (QRow S.size w) := by
  have HT := Aside0.mk hT
  have HU := Aside0.mk hU
  have HZ := Aside0.mk (fun ty => zeros_run w ty (S.size + 2) (by omega) (by omega))
  have hB0 : Aside0 (w.heap.size ≤ w.heap.size) := ⟨Nat.le_refl _⟩
  have hcap := grownCap_ge w (S.size + 2) 0 5
  have hcapm := grownCap_le_maxLen w (S.size + 2) 0 5 (by unfold maxLen; omega)
  generalize grownCap w (S.size + 2) 0 5 = cap at *
  have hzs : (Builtin.zeroCells (Value.int IntKind.u8 0).cells (S.size + 2) ++ Builtin.zeroCells (Value.int IntKind.u8 0).cells (cap - (S.size + 2))).size = cap := by
    have hz1 : (Value.int IntKind.u8 0).cells.size = 1 := rfl
    simp only [Array.size_append, size_zeroCells, hz1]; omega
  have R0 := Aside0.mk (zeros_row (W := w.drew) (B := w.heap.size) (Nat.le_refl _) hcapm hzs)
  have B0 := Aside0.mk (((Below.refl w.heap.size w).drew).alloc (Nat.le_refl _) (.cells (Builtin.zeroCells (Value.int IntKind.u8 0).cells (S.size + 2) ++ Builtin.zeroCells (Value.int IntKind.u8 0).cells (cap - (S.size + 2))) 5))
  generalize (Builtin.zeroCells (Value.int IntKind.u8 0).cells (S.size + 2) ++ Builtin.zeroCells (Value.int IntKind.u8 0).cells (cap - (S.size + 2))) = zc at *
  clear hT hU hcapm hzs
  have hsub : ((S.size : Int) + 2 - (S.size : Int) - 2) = 0 := by omega
  have hsub2 : (((S.size + 2 : Nat) : Int) - (S.size : Int) - 2) = 0 := by omega
  have S0 : Aside0 (w.heap.size ≤ (w.drew.alloc (.cells zc 5)).heap.size) := ⟨by rw [World.size_alloc]; show w.heap.size ≤ w.heap.size + 1; omega⟩
  go_enter Tryd.func32, Tryd.ntmps32
  go_wp2_with (first
    | (at_builtin; refine Lib.wpList_append_run _ rfl _ _ _ _ rfl _ _ rfl rfl _ _ (HZ.out _) ?_)
    | (at_builtin; refine app_b2 rfl _ _ rfl (B := w.heap.size) (W0 := w) (xs := []) [34] _ rfl rfl (by decide) R0 B0 S0 ⟨by simp⟩ rfl _ rfl (by rw [World.size_alloc]; rfl) ?_; intro v1 w1 R1 B1 S1))
  clear hcap hsub hsub2
  go_loopw [0, 5] (fun v0 v5 wr => ∃ (k : Nat) (b : List Int), v5 = .int .i64 k ∧ k ≤ S.size ∧ Aside0 (BRow wr w.heap.size v0 (34 :: b)) ∧ Aside0 (QB b) ∧ Aside0 (Bytes b) ∧ b.length ≤ 6 * k ∧ Aside0 (Below w.heap.size w wr)) (fun _ i _ => S.size - (intOf i).toNat)
  case atStart => exact ⟨0, [], rfl, Nat.zero_le _, R1, ⟨QB.nil⟩, ⟨fun x hx => by simp at hx⟩, Nat.zero_le _, B1⟩
  case round =>
    clear R1 B1 S1 R0 B0 S0 HZ
    obtain ⟨k, b, rfl, hk, HR, HQ, HY, hlb, HB⟩ := hrel
    have hlb' : (34 :: b).length ≤ 6 * k + 1 := by simp; omega
    have hS : Aside0 (w.heap.size ≤ wr.heap.size) := ⟨HB.out.size⟩
    have HN : ∀ m, m ≤ 100 → Aside0 ((34 :: b).length + m ≤ 1099511627000) := fun m hm => ⟨by omega⟩
    clear hlb'
    by_cases hlt : k < S.size
    · obtain ⟨x, hx⟩ : ∃ x, (S[k].toNat : Int) = x := ⟨_, rfl⟩
      have hxb : 0 ≤ x ∧ x < 256 := by rw [← hx]; have := S[k].toNat_lt; omega
      by_cases h32 : x < 32
      · have C8 : x = 8 ∨ x = 12 ∨ x = 10 ∨ x = 13 ∨ x = 9 ∨ (x ≠ 8 ∧ x ≠ 12 ∧ x ≠ 10 ∧ x ≠ 13 ∧ x ≠ 9) := by omega
        rcases C8 with rfl | rfl | rfl | rfl | rfl | ⟨d1, d2, d3, d4, d5⟩
        · go_wp2_with (first
            | (at_builtin; refine app_b2 rfl _ _ rfl [98] _ rfl rfl (by decide) R1 B1 S1 (HN2 1 (by decide)) rfl _ rfl rfl ?_; intro v2 w2 R2 B2 S2)
            | (at_builtin; refine app_b2 rfl _ _ rfl [92] _ rfl rfl (by decide) HR HB hS (HN 1 (by decide)) rfl _ rfl rfl ?_; intro v1 w1 R1 B1 S1; have HN2 : ∀ m, m ≤ 90 → Aside0 ((34 :: b ++ [92]).length + m ≤ 1099511627000) := fun m hm => ⟨by have := (HN 1 (by decide)).out; simp at this ⊢; omega⟩))
          go_roundw
          case rel => exact ⟨k + 1, b ++ [92, 98], by go_num, by omega, ⟨R2.out.re (by simp)⟩, ⟨HQ.out.app (QB.esc rfl)⟩, ⟨HY.out.app (Bytes.lit rfl)⟩, by simp; omega, B2⟩
          case measure => simp [intOf]; omega
        · go_wp2_with (first
            | (at_builtin; refine app_b2 rfl _ _ rfl [102] _ rfl rfl (by decide) R1 B1 S1 (HN2 1 (by decide)) rfl _ rfl rfl ?_; intro v2 w2 R2 B2 S2)
            | (at_builtin; refine app_b2 rfl _ _ rfl [92] _ rfl rfl (by decide) HR HB hS (HN 1 (by decide)) rfl _ rfl rfl ?_; intro v1 w1 R1 B1 S1; have HN2 : ∀ m, m ≤ 90 → Aside0 ((34 :: b ++ [92]).length + m ≤ 1099511627000) := fun m hm => ⟨by have := (HN 1 (by decide)).out; simp at this ⊢; omega⟩))
          go_roundw
          case rel => exact ⟨k + 1, b ++ [92, 102], by go_num, by omega, ⟨R2.out.re (by simp)⟩, ⟨HQ.out.app (QB.esc rfl)⟩, ⟨HY.out.app (Bytes.lit rfl)⟩, by simp; omega, B2⟩
          case measure => simp [intOf]; omega
        · go_wp2_with (first
            | (at_builtin; refine app_b2 rfl _ _ rfl [110] _ rfl rfl (by decide) R1 B1 S1 (HN2 1 (by decide)) rfl _ rfl rfl ?_; intro v2 w2 R2 B2 S2)
            | (at_builtin; refine app_b2 rfl _ _ rfl [92] _ rfl rfl (by decide) HR HB hS (HN 1 (by decide)) rfl _ rfl rfl ?_; intro v1 w1 R1 B1 S1; have HN2 : ∀ m, m ≤ 90 → Aside0 ((34 :: b ++ [92]).length + m ≤ 1099511627000) := fun m hm => ⟨by have := (HN 1 (by decide)).out; simp at this ⊢; omega⟩))
          go_roundw
          case rel => exact ⟨k + 1, b ++ [92, 110], by go_num, by omega, ⟨R2.out.re (by simp)⟩, ⟨HQ.out.app (QB.esc rfl)⟩, ⟨HY.out.app (Bytes.lit rfl)⟩, by simp; omega, B2⟩
          case measure => simp [intOf]; omega
        · go_wp2_with (first
            | (at_builtin; refine app_b2 rfl _ _ rfl [114] _ rfl rfl (by decide) R1 B1 S1 (HN2 1 (by decide)) rfl _ rfl rfl ?_; intro v2 w2 R2 B2 S2)
            | (at_builtin; refine app_b2 rfl _ _ rfl [92] _ rfl rfl (by decide) HR HB hS (HN 1 (by decide)) rfl _ rfl rfl ?_; intro v1 w1 R1 B1 S1; have HN2 : ∀ m, m ≤ 90 → Aside0 ((34 :: b ++ [92]).length + m ≤ 1099511627000) := fun m hm => ⟨by have := (HN 1 (by decide)).out; simp at this ⊢; omega⟩))
          go_roundw
          case rel => exact ⟨k + 1, b ++ [92, 114], by go_num, by omega, ⟨R2.out.re (by simp)⟩, ⟨HQ.out.app (QB.esc rfl)⟩, ⟨HY.out.app (Bytes.lit rfl)⟩, by simp; omega, B2⟩
          case measure => simp [intOf]; omega
        · go_wp2_with (first
            | (at_builtin; refine app_b2 rfl _ _ rfl [116] _ rfl rfl (by decide) R1 B1 S1 (HN2 1 (by decide)) rfl _ rfl rfl ?_; intro v2 w2 R2 B2 S2)
            | (at_builtin; refine app_b2 rfl _ _ rfl [92] _ rfl rfl (by decide) HR HB hS (HN 1 (by decide)) rfl _ rfl rfl ?_; intro v1 w1 R1 B1 S1; have HN2 : ∀ m, m ≤ 90 → Aside0 ((34 :: b ++ [92]).length + m ≤ 1099511627000) := fun m hm => ⟨by have := (HN 1 (by decide)).out; simp at this ⊢; omega⟩))
          go_roundw
          case rel => exact ⟨k + 1, b ++ [92, 116], by go_num, by omega, ⟨R2.out.re (by simp)⟩, ⟨HQ.out.app (QB.esc rfl)⟩, ⟨HY.out.app (Bytes.lit rfl)⟩, by simp; omega, B2⟩
          case measure => simp [intOf]; omega
        · have e1 : (x == 8) = false := by simpa using d1
          have e2 : (x == 12) = false := by simpa using d2
          have e3 : (x == 10) = false := by simpa using d3
          have e4 : (x == 13) = false := by simpa using d4
          have e5 : (x == 9) = false := by simpa using d5
          obtain ⟨y, rfl⟩ := Int.eq_ofNat_of_zero_le hxb.1
          clear d1 d2 d3 d4 d5
          go_wp2_with (first
            | (go_at_call 53; refine (hex16_calls _ _ _ y w _ (by omega) (HT.out.below B2.out) R2.out B2.out S2.out (by simp; omega)).mono ?_; rintro e w4 ⟨v4, a1, a2, a3, a4, rfl, R3, B3, q1, q2, q3, q4, q5⟩; have R3 := Aside0.mk R3; have B3 := Aside0.mk B3; have QH := Aside0.mk (And.intro (QB.hex q1 q2 q3 q4) q5); clear q1 q2 q3 q4 q5)
            | (at_builtin; refine app_b2 rfl _ _ rfl [117] _ rfl rfl (by decide) R1 B1 S1 (HN2 1 (by decide)) rfl _ rfl rfl ?_; intro v2 w2 R2 B2 S2)
            | (at_builtin; refine app_b2 rfl _ _ rfl [92] _ rfl rfl (by decide) HR HB hS (HN 1 (by decide)) rfl _ rfl rfl ?_; intro v1 w1 R1 B1 S1; have HN2 : ∀ m, m ≤ 90 → Aside0 ((34 :: b ++ [92]).length + m ≤ 1099511627000) := fun m hm => ⟨by have := (HN 1 (by decide)).out; simp at this ⊢; omega⟩))
          go_roundw
          case rel => exact ⟨k + 1, b ++ [92, 117, a1, a2, a3, a4], by go_num, by omega, ⟨R3.out.re (by simp)⟩, ⟨HQ.out.app QH.out.1⟩, ⟨HY.out.app (Bytes.app (a := [92, 117]) (Bytes.lit rfl) QH.out.2)⟩, by simp; omega, B3⟩
          case measure => simp [intOf]; omega
      · by_cases h62 : x = 62 ∨ x = 60 ∨ x = 38
        · have g53 : Calls Tryd.prog 54 #[] wr (fun e w' => e = .returned (.bool true) ∧ wr = w') := by
            go_enter Tryd.func54, Tryd.ntmps54
            go_wp2
            go_ret
            exact ⟨rfl, rfl⟩
          have G53 := Aside0.mk g53
          clear g53 hxb
          rcases h62 with rfl | rfl | rfl
          · have H53 := Aside0.mk (fun v xs W hT HR HB hB hn => hex16_calls v xs w.heap.size 62 w W (by decide) hT HR HB hB hn)
            rw [show ((62 : Nat) : Int) = 62 from rfl] at H53
            go_wp2_with (first
              | (go_at_call 54; refine G53.out.mono ?_; rintro e w0 ⟨rfl, rfl⟩)
              | (go_at_call 53; refine (H53.out _ _ _ (HT.out.below B1.out) R1.out B1.out S1.out (by simp; omega)).mono ?_; rintro e w4 ⟨v4, a1, a2, a3, a4, rfl, R3, B3, q1, q2, q3, q4, q5⟩; have R3 := Aside0.mk R3; have B3 := Aside0.mk B3; have QH := Aside0.mk (And.intro (QB.hex q1 q2 q3 q4) q5); clear q1 q2 q3 q4 q5)
              | (at_builtin; refine app_b2 rfl _ _ rfl [92, 117] _ rfl rfl (by decide) HR HB hS (HN 2 (by decide)) rfl _ rfl rfl ?_; intro v1 w1 R1 B1 S1))
            go_roundw
            case rel => exact ⟨k + 1, b ++ [92, 117, a1, a2, a3, a4], by go_num, by omega, ⟨R3.out.re (by simp)⟩, ⟨HQ.out.app QH.out.1⟩, ⟨HY.out.app (Bytes.app (a := [92, 117]) (Bytes.lit rfl) QH.out.2)⟩, by simp; omega, B3⟩
            case measure => simp [intOf]; omega
          · have H53 := Aside0.mk (fun v xs W hT HR HB hB hn => hex16_calls v xs w.heap.size 60 w W (by decide) hT HR HB hB hn)
            rw [show ((60 : Nat) : Int) = 60 from rfl] at H53
            go_wp2_with (first
              | (go_at_call 54; refine G53.out.mono ?_; rintro e w0 ⟨rfl, rfl⟩)
              | (go_at_call 53; refine (H53.out _ _ _ (HT.out.below B1.out) R1.out B1.out S1.out (by simp; omega)).mono ?_; rintro e w4 ⟨v4, a1, a2, a3, a4, rfl, R3, B3, q1, q2, q3, q4, q5⟩; have R3 := Aside0.mk R3; have B3 := Aside0.mk B3; have QH := Aside0.mk (And.intro (QB.hex q1 q2 q3 q4) q5); clear q1 q2 q3 q4 q5)
              | (at_builtin; refine app_b2 rfl _ _ rfl [92, 117] _ rfl rfl (by decide) HR HB hS (HN 2 (by decide)) rfl _ rfl rfl ?_; intro v1 w1 R1 B1 S1))
            go_roundw
            case rel => exact ⟨k + 1, b ++ [92, 117, a1, a2, a3, a4], by go_num, by omega, ⟨R3.out.re (by simp)⟩, ⟨HQ.out.app QH.out.1⟩, ⟨HY.out.app (Bytes.app (a := [92, 117]) (Bytes.lit rfl) QH.out.2)⟩, by simp; omega, B3⟩
            case measure => simp [intOf]; omega
          · have H53 := Aside0.mk (fun v xs W hT HR HB hB hn => hex16_calls v xs w.heap.size 38 w W (by decide) hT HR HB hB hn)
            rw [show ((38 : Nat) : Int) = 38 from rfl] at H53
            go_wp2_with (first
              | (go_at_call 54; refine G53.out.mono ?_; rintro e w0 ⟨rfl, rfl⟩)
              | (go_at_call 53; refine (H53.out _ _ _ (HT.out.below B1.out) R1.out B1.out S1.out (by simp; omega)).mono ?_; rintro e w4 ⟨v4, a1, a2, a3, a4, rfl, R3, B3, q1, q2, q3, q4, q5⟩; have R3 := Aside0.mk R3; have B3 := Aside0.mk B3; have QH := Aside0.mk (And.intro (QB.hex q1 q2 q3 q4) q5); clear q1 q2 q3 q4 q5)
              | (at_builtin; refine app_b2 rfl _ _ rfl [92, 117] _ rfl rfl (by decide) HR HB hS (HN 2 (by decide)) rfl _ rfl rfl ?_; intro v1 w1 R1 B1 S1))
            go_roundw
            case rel => exact ⟨k + 1, b ++ [92, 117, a1, a2, a3, a4], by go_num, by omega, ⟨R3.out.re (by simp)⟩, ⟨HQ.out.app QH.out.1⟩, ⟨HY.out.app (Bytes.app (a := [92, 117]) (Bytes.lit rfl) QH.out.2)⟩, by simp; omega, B3⟩
            case measure => simp [intOf]; omega
        · have b62 : (x == 62) = false ∧ (x == 60) = false ∧ (x == 38) = false := by
            simp only [beq_eq_false_iff_ne, ne_eq]; omega
          obtain ⟨c62, c60, c38⟩ := b62
          clear h62
          by_cases h92 : x = 92
          · subst h92
            go_wp2_with (first
              | (at_builtin; refine app_b2 rfl _ _ rfl [92, 92] _ rfl rfl (by decide) HR HB hS (HN 2 (by decide)) rfl _ rfl rfl ?_; intro v1 w1 R1 B1 S1))
            go_roundw
            case rel => exact ⟨k + 1, b ++ [92, 92], by go_num, by omega, ⟨R1.out.re (by simp)⟩, ⟨HQ.out.app (QB.esc rfl)⟩, ⟨HY.out.app (Bytes.lit rfl)⟩, by simp; omega, B1⟩
            case measure => simp [intOf]; omega
          · have b92 : (x == 92) = false := by simpa using h92
            by_cases h34 : x = 34
            · subst h34
              clear h92
              go_wp2_with (first
                | (at_builtin; refine app_b2 rfl _ _ rfl [92, 34] _ rfl rfl (by decide) HR HB hS (HN 2 (by decide)) rfl _ rfl rfl ?_; intro v1 w1 R1 B1 S1))
              go_roundw
              case rel => exact ⟨k + 1, b ++ [92, 34], by go_num, by omega, ⟨R1.out.re (by simp)⟩, ⟨HQ.out.app (QB.esc rfl)⟩, ⟨HY.out.app (Bytes.lit rfl)⟩, by simp; omega, B1⟩
              case measure => simp [intOf]; omega
            · have b34 : (x == 34) = false := by simpa using h34
              by_cases h127 : 127 < x
              · have hb0 : 128 ≤ S[k].toNat := by omega
                have HX := Aside0.mk hx
                have hT0 : 0 < (S.extract k S.size).size := by simp; omega
                have C := Aside0.mk (fun W (hW : Lib.Utf8Tabs 2 3 W) => Tryd.utf8_DecodeRuneInString (S.extract k S.size) W hW)
                rw [decGo hT0, toNat_ext S k hlt] at C
                obtain ⟨d, hd⟩ : ∃ d, d = decodeL (S[k] :: S.data.toList.drop (k + 1)) := ⟨_, rfl⟩
                rw [← hd] at C
                have hdrop : S.data.toList.drop k = S[k] :: S.data.toList.drop (k + 1) := by
                  rw [List.drop_eq_getElem_cons (by simpa using hlt)]; rfl
                obtain ⟨u, L⟩ := d
                clear hT0 h34 h92
                by_cases hbad : badHead (S[k] :: S.data.toList.drop (k + 1)) = true
                · have hbd := bad_iff.1 hbad
                  rw [← hd] at hbd
                  obtain ⟨rfl, rfl⟩ : u = 65533 ∧ L = 1 := hbd
                  clear hbad hd hdrop
                  go_wp2_with (first
                    | (go_at_call 55; refine (C.out _ (Utf8Tabs_below HU.out HB.out)).mono ?_; rintro e w1 ⟨rfl, hb1⟩; have R1 := Aside0.mk (HR.out.below hb1); have B1 := Aside0.mk (below_step HB.out hb1); have S1 : Aside0 (w.heap.size ≤ w1.heap.size) := ⟨B1.out.size⟩; clear hb1)
                    | (at_builtin; refine app_st rfl _ _ rfl ⟨#[239, 191, 189]⟩ R1 B1 S1 (HN 3 (by decide)) rfl rfl ?_; intro v2 w2 R2 B2 S2))
                  go_roundw
                  case rel => exact ⟨k + 1, b ++ [239, 191, 189], by go_num, by omega, ⟨R2.out.re (by rw [show bytesOf ⟨#[239, 191, 189]⟩ = [239, 191, 189] from rfl]; simp)⟩, ⟨HQ.out.app (QB.list _ (by intro c hc; simp at hc; omega))⟩, ⟨HY.out.app (Bytes.lit rfl)⟩, by simp; omega, B2⟩
                  case measure => simp [intOf]; omega
                · have hbf : badHead (S[k] :: S.data.toList.drop (k + 1)) = false := by simpa using hbad
                  obtain ⟨hhi, hL1, hL2⟩ := chr_high hb0 hbf
                  rw [← hd] at hhi hL1 hL2
                  simp only at hhi hL1 hL2
                  rw [← hdrop] at hhi
                  have hkL : k + L ≤ S.size := by rw [List.length_drop] at hL2; have : S.data.toList.length = S.size := by simp
                                                  omega
                  have HHI := Aside0.mk (ext_high hhi)
                  have hnb : ¬ (u = 65533 ∧ L = 1) := fun h => hbad (bad_iff.2 (by rw [← hd]; exact h))
                  clear hbad hbf hd hdrop hhi hL2
                  have hL0 : ((L : Int) == 0) = false := by simp; omega
                  by_cases h8 : u = 8232 ∨ u = 8233
                  · clear hnb
                    rcases h8 with rfl | rfl
                    · have hbits : bits BinOp.and IntKind.i32 8232 15 = 8 := Lib.and15_i32 8232 (by decide)
                      go_wp2_with (first
                        | (go_at_call 55; refine (C.out _ (Utf8Tabs_below HU.out HB.out)).mono ?_; rintro e w1 ⟨rfl, hb1⟩; have R1 := Aside0.mk (HR.out.below hb1); have B1 := Aside0.mk (below_step HB.out hb1); have S1 : Aside0 (w.heap.size ≤ w1.heap.size) := ⟨B1.out.size⟩; clear hb1)
                        | (at_builtin; refine app_st rfl _ _ rfl ⟨#[92, 117, 50, 48, 50]⟩ R1 B1 S1 (HN 5 (by decide)) rfl rfl ?_; intro v2 w2 R2 B2 S2; have hc8 : w2.cell? ⟨0, 8, none⟩ = some (.int .u8 56) := (HT.out.below B2.out).2 8 (by decide))
                        | (at_builtin; refine app_b2 rfl _ _ rfl [56] _ rfl rfl (by decide) R2 B2 S2 ⟨(by rw [List.length_append]; have := (HN 6 (by decide)).out; have h5 : (bytesOf ⟨#[92, 117, 50, 48, 50]⟩).length = 5 := rfl; simp at this ⊢; omega)⟩ rfl _ rfl rfl ?_; intro v3 w3 R3 B3 S3))
                      go_roundw
                      case rel => exact ⟨k + L, b ++ [92, 117, 50, 48, 50, 56], by go_num, by omega, ⟨R3.out.re (by rw [show bytesOf ⟨#[92, 117, 50, 48, 50]⟩ = [92, 117, 50, 48, 50] from rfl]; simp)⟩, ⟨HQ.out.app (QB.hex rfl rfl rfl rfl)⟩, ⟨HY.out.app (Bytes.lit rfl)⟩, by simp; omega, B3⟩
                      case measure => simp [intOf]; omega
                    · have hbits : bits BinOp.and IntKind.i32 8233 15 = 9 := Lib.and15_i32 8233 (by decide)
                      go_wp2_with (first
                        | (go_at_call 55; refine (C.out _ (Utf8Tabs_below HU.out HB.out)).mono ?_; rintro e w1 ⟨rfl, hb1⟩; have R1 := Aside0.mk (HR.out.below hb1); have B1 := Aside0.mk (below_step HB.out hb1); have S1 : Aside0 (w.heap.size ≤ w1.heap.size) := ⟨B1.out.size⟩; clear hb1)
                        | (at_builtin; refine app_st rfl _ _ rfl ⟨#[92, 117, 50, 48, 50]⟩ R1 B1 S1 (HN 5 (by decide)) rfl rfl ?_; intro v2 w2 R2 B2 S2; have hc8 : w2.cell? ⟨0, 9, none⟩ = some (.int .u8 57) := (HT.out.below B2.out).2 9 (by decide))
                        | (at_builtin; refine app_b2 rfl _ _ rfl [57] _ rfl rfl (by decide) R2 B2 S2 ⟨(by rw [List.length_append]; have := (HN 6 (by decide)).out; have h5 : (bytesOf ⟨#[92, 117, 50, 48, 50]⟩).length = 5 := rfl; simp at this ⊢; omega)⟩ rfl _ rfl rfl ?_; intro v3 w3 R3 B3 S3))
                      go_roundw
                      case rel => exact ⟨k + L, b ++ [92, 117, 50, 48, 50, 57], by go_num, by omega, ⟨R3.out.re (by rw [show bytesOf ⟨#[92, 117, 50, 48, 50]⟩ = [92, 117, 50, 48, 50] from rfl]; simp)⟩, ⟨HQ.out.app (QB.hex rfl rfl rfl rfl)⟩, ⟨HY.out.app (Bytes.lit rfl)⟩, by simp; omega, B3⟩
                      case measure => simp [intOf]; omega
                  · have c1 : ((u : Int) == 8232) = false := by simp; omega
                    have c2 : ((u : Int) == 8233) = false := by simp; omega
                    have hsz : (S.extract k (k + L)).size ≤ 2147483647 := by simp; omega
                    have HSZ : Aside0 ((34 :: b).length + (S.extract k (k + L)).size ≤ 1099511627000) := ⟨by simp; omega⟩
                    have hlen : (bytesOf (S.extract k (k + L))).length ≤ L := by rw [bytesOf_length]; simp; omega
                    have HLEN := Aside0.mk hlen
                    clear hsz hlen h8
                    have hguard : ((u : Int) == 65533) = false ∨ (u = 65533 ∧ ((L : Int) == 1) = false) := by
                      by_cases e : u = 65533
                      · exact .inr ⟨e, by simp only [beq_eq_false_iff_ne, ne_eq]; omega⟩
                      · exact .inl (by simp only [beq_eq_false_iff_ne, ne_eq]; omega)
                    clear hnb
                    rcases hguard with g1 | ⟨rfl, g1⟩
                    all_goals
                      go_wp2_with (first
                        | (go_at_call 55; refine (C.out _ (Utf8Tabs_below HU.out HB.out)).mono ?_; rintro e w1 ⟨rfl, hb1⟩; have R1 := Aside0.mk (HR.out.below hb1); have B1 := Aside0.mk (below_step HB.out hb1); have S1 : Aside0 (w.heap.size ≤ w1.heap.size) := ⟨B1.out.size⟩; clear hb1)
                        | (at_builtin; refine app_st rfl _ _ rfl (S.extract k (k + L)) R1 B1 S1 HSZ rfl rfl ?_; intro v2 w2 R2 B2 S2))
                      go_roundw
                      case rel => exact ⟨k + L, b ++ bytesOf (S.extract k (k + L)), by go_num, by omega, ⟨R2.out.re (by simp)⟩, ⟨HQ.out.app (QB.list _ HHI.out)⟩, ⟨HY.out.app (bytesOf_ok _)⟩, by rw [List.length_append]; have := HLEN.out; omega, B2⟩
                      case measure => simp [intOf]; omega
              · have QX := Aside0.mk (And.intro (QB.plain h34 h32 h92) (show Bytes [x] from fun z hz => by simp at hz; subst hz; exact hxb))
                clear h34 h92 hxb
                go_wp2_with (first
                  | (at_builtin; refine app_b2 rfl _ _ rfl [x] _ rfl rfl (by simp) HR HB hS (HN 1 (by decide)) rfl _ rfl rfl ?_; intro v1 w1 R1 B1 S1))
                go_roundw
                case rel => exact ⟨k + 1, b ++ [x], by go_num, by omega, ⟨R1.out.re (by simp)⟩, ⟨HQ.out.app QX.out.1⟩, ⟨HY.out.app QX.out.2⟩, by simp; omega, B1⟩
                case measure => simp [intOf]; omega
    · go_wp2_with (first
        | (at_builtin; refine app_b2 rfl _ _ rfl [34] _ rfl rfl (by decide) HR HB hS (HN 1 (by decide)) rfl _ rfl rfl ?_; intro v1 w1 R1 B1 S1))
      go_ret
      exact ⟨_, b, rfl, R1.out.re (by simp), HQ.out, Bytes.app (a := [34]) (Bytes.lit rfl) (HY.out.app (Bytes.lit rfl)), by omega, B1.out⟩
end Go.Proofs.YtiecdhkmlpceoaaDoor.G
