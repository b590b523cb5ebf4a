/- gjson's Valid: whether a text is a JSON text. -/
import Derived.Test.YtiecdhkmlpceoaaDoorGsF
import Derived.Test.YtiecdhkmlpceoaaDoorGvX
namespace Go.Proofs.YtiecdhkmlpceoaaDoor.G
set_option linter.unusedVariables false
set_option linter.unusedSimpArgs false
open Go.RowKit Go.Proofs.YtiecdhkmlpceoaaDoorW.PrintWords

def PayA (b : Bool) (w : World) (e : Ending) (w' : World) : Prop := ∃ p : Int, e = .returned (.tuple #[.int .i64 p, .bool b]) ∧ w' = w
def isJ (xs : List Int) : Bool := (J xs).isSome
theorem isJ_no {xs : List Int} {q : Nat} (hq : q = bl xs) (hv : V q (xs.drop q) = none) : isJ xs = false := by
  unfold isJ J; rw [← hq, hv]; rfl
theorem isJ_at {xs : List Int} {q p e j : Nat} {t : Pl} (hq : q = bl xs) (hv : V q (xs.drop q) = some (t, j)) (hp : p = q + j) (he : e = p + bl (xs.drop p)) : isJ xs = decide (e = xs.length) := by
  unfold isJ J; rw [← hq, hv]
  simp only []
  rw [← hp, ← he]
  split
  · rename_i h; rw [h]; simp
  · rename_i h; simp [h]
set_option maxHeartbeats 8000000 in
set_option maxRecDepth 100000 in
theorem payload_calls (h o n c : Nat) (xs : List Int) (w : World) (H : RowAt w h o xs) (hl : xs.length = n) (hn : n ≤ 140737488351232) :
    Calls Tryd.prog 56 #[.slice (some ⟨h, o, none⟩) n c, .int .i64 0] w (PayA (isJ xs) w) := by
  have HH := Aside0.mk (fun k (hk : k < n) => H.2 k (by rw [hl]; exact hk))
  have HV := Aside0.mk (fun k (hk : k ≤ n) => vany_calls h o n c xs w H hl hn _ k (Nat.le_refl _) hk)
  have HL := Aside0.mk hl
  clear H hl
  go_enter Tryd.func56, Tryd.ntmps56
  go_wp2_with fail
  go_loop [1] (fun i => ∃ k : Nat, i = .int .i64 k ∧ k ≤ n ∧ Aside0 (k + bl (xs.drop k) = bl xs)) (fun i => n - (intOf i).toNat)
  case atStart => exact ⟨0, rfl, Nat.zero_le _, ⟨by simp⟩⟩
  case round =>
    obtain ⟨k, rfl, hk, HK⟩ := hrel
    by_cases hlt : k < n
    · obtain ⟨x, hx⟩ : ∃ x, x = xs.getD k 0 := ⟨_, rfl⟩
      have hc : w.cell? ⟨h, o + k, none⟩ = some (.int .u8 x) := by rw [hx]; exact HH.out k hlt
      have hd := drop_at HL.out hlt
      rw [← hx] at hd
      have HD := Aside0.mk hd
      clear hx hd
      cases hb : isBl x with
      | true =>
        have HB := Aside0.mk hb
        rcases isBl_or' hb with rfl | rfl | rfl | rfl
        all_goals
          clear hb
          go_wp2
          go_round
          case rel => exact ⟨k + 1, by go_num, by omega, ⟨by have := HK.out; rw [HD.out, bl_one HB.out] at this; omega⟩⟩
          case measure => simp [intOf]; omega
      | false =>
        obtain ⟨b1, b2, b3, b4⟩ := isBl_not hb
        have hq : k = bl xs := by have := HK.out; rw [HD.out, bl_zero hb] at this; omega
        have hb0 : bl (xs.drop k) = 0 := by rw [HD.out, bl_zero hb]
        have C := HV.out k hk
        rw [vF_eq (s := k) (by omega)] at C
        have C := Aside0.mk C
        cases hv : V k (xs.drop k) with
        | none =>
          have HX := Aside0.mk (isJ_no hq hv)
          rw [hv] at C
          clear hb hq hb0 HK hv
          go_wp2_with (go_at_call 70; refine C.out.mono ?_; rintro e w1 ⟨p, bb, rfl, rfl, hA⟩; have hb : bb = false := hA.out; clear hA; subst hb)
          go_ret2
          rw [HX.out]
          exact ⟨_, rfl, rfl⟩
        | some tj =>
          obtain ⟨t, j⟩ := tj
          rw [hv] at C
          have hj := V_le hv
          rw [List.length_drop, HL.out] at hj
          obtain ⟨p, hp⟩ : ∃ p, p = k + j := ⟨_, rfl⟩
          obtain ⟨e0, he⟩ : ∃ e0, e0 = p + bl (xs.drop p) := ⟨_, rfl⟩
          have HX := Aside0.mk (isJ_at hq hv hp he)
          have HP : Aside0 (((k + (k - k + j) : Nat) : Int) = (p : Int)) := ⟨by omega⟩
          have hpn : p ≤ n := by omega
          have HE := Aside0.mk he
          clear hb hq hb0 HK hv hp he hj
          go_wp2_with (go_at_call 70; refine C.out.mono ?_; rintro e w1 ⟨p', bb, rfl, rfl, hA⟩; obtain ⟨rfl, hpe⟩ := hA.out; obtain rfl : p' = (p : Int) := (by have h1 : p' = ((k + (k - k + j) : Nat) : Int) := hpe; rw [h1, HP.out]); clear hA hpe)
          go_loop [1] (fun i => ∃ z : Nat, i = .int .i64 z ∧ p ≤ z ∧ z ≤ n ∧ Aside0 (z + bl (xs.drop z) = e0)) (fun i => n - (intOf i).toNat)
          case atStart => exact ⟨p, rfl, Nat.le_refl _, hpn, ⟨HE.out.symm⟩⟩
          case round =>
            clear hc b1 b2 b3 b4
            obtain ⟨z, rfl, hpz, hzn, HZ⟩ := hrel
            by_cases hzl : z < n
            · obtain ⟨y, hy⟩ : ∃ y, y = xs.getD z 0 := ⟨_, rfl⟩
              have hcy := HH.out z hzl
              rw [← hy] at hcy
              have hd := drop_at HL.out hzl
              rw [← hy] at hd
              have HD2 := Aside0.mk hd
              clear hy hd
              cases hb : isBl y with
              | true =>
                have HB := Aside0.mk hb
                rcases isBl_or' hb with rfl | rfl | rfl | rfl
                all_goals
                  clear hb
                  go_wp2
                  go_round
                  case rel => exact ⟨z + 1, by go_num, by omega, by omega, ⟨by have := HZ.out; rw [HD2.out, bl_one HB.out] at this; omega⟩⟩
                  case measure => simp [intOf]; omega
              | false =>
                obtain ⟨b1, b2, b3, b4⟩ := isBl_not hb
                have hz : z = e0 := by have := HZ.out; rw [HD2.out, bl_zero hb] at this; omega
                have HX2 : Aside0 (isJ xs = false) := ⟨by rw [HX.out, HL.out]; simp; omega⟩
                clear hb hz HZ
                go_wp2
                go_ret2
                rw [HX2.out]
                exact ⟨_, rfl, rfl⟩
            · have HX2 : Aside0 (isJ xs = true) := ⟨by
                have h1 := HZ.out
                rw [drop_nil' HL.out hzl] at h1
                have h2 : e0 = n := by simp [bl] at h1; omega
                rw [HX.out, HL.out, h2]; simp⟩
              clear HZ
              go_wp2
              go_ret2
              rw [HX2.out]
              exact ⟨_, rfl, rfl⟩
    · have HX : Aside0 (isJ xs = false) := ⟨by
        have h1 := HK.out
        rw [drop_nil' HL.out hlt] at h1
        have h2 : n = bl xs := by simp [bl] at h1; omega
        exact isJ_no h2 (by rw [drop_nil' HL.out (Nat.lt_irrefl _), V_eq]; rfl)⟩
      clear HK
      go_wp2
      go_ret2
      rw [HX.out]
      exact ⟨_, rfl, rfl⟩
theorem sb_row (W : World) (s : ByteArray) : RowAt (Lib.bytesWorld W 5 s) W.heap.size 0 (bytesOf s) := by
  obtain ⟨g, cap, e, h1, h2, h3, h4, h5⟩ := Buf.conv W 5 s W.heap.size (Nat.le_refl _)
  injection e with e1 e2 e3
  injection e1 with e1
  injection e1 with e1
  subst e1 e3
  refine ⟨h2, fun j hj => ?_⟩
  rw [Nat.zero_add]
  exact h4 j _ (by simp [List.getD_eq_getElem?_getD, List.getElem?_eq_getElem hj])
theorem sb_below (w : World) (s : ByteArray) : Below w.heap.size w (Lib.bytesWorld w 5 s) := bytes_below (Below.refl _ _) (Nat.le_refl _) 5 s
def JAns (b : Bool) (w : World) (e : Ending) (w' : World) : Prop := e = .returned (.bool b) ∧ Below w.heap.size w w'
set_option maxHeartbeats 8000000 in
set_option maxRecDepth 100000 in
theorem valid_calls (s : ByteArray) (w : World) (hm : s.size ≤ 140737488351232) : Calls Tryd.prog 16 #[.string s] w (JAns (isJ (bytesOf s)) w) := by
  have C57 : Calls Tryd.prog 57 #[.string s] w (fun e w' => e = .returned (.slice (some ⟨w.heap.size, 0, none⟩) s.size (grownCap w s.size 0 5)) ∧ w' = Lib.bytesWorld w 5 s) := by
    have kb := fun W => print_bytes (P := Tryd.prog) 9 55 5 Tryd.underlying9 Tryd.underlying55 Tryd.underlying5 s W
    go_enter Tryd.func57, Tryd.ntmps57
    go_wp2_with fail
    go_ret
    exact ⟨rfl, rfl⟩
  have C57 := Aside0.mk C57
  have P := Aside0.mk (payload_calls w.heap.size 0 s.size (grownCap w s.size 0 5) (bytesOf s) (Lib.bytesWorld w 5 s) (sb_row w s) (bytesOf_length s) hm)
  have C33 : Calls Tryd.prog 33 #[.string s] w (JAns (isJ (bytesOf s)) w) := by
    go_enter Tryd.func33, Tryd.ntmps33
    go_wp2_with (first
      | (go_at_call 57; refine C57.out.mono ?_; rintro e w1 ⟨rfl, rfl⟩)
      | (go_at_call 56; refine P.out.mono ?_; rintro e w1 ⟨p, rfl, rfl⟩))
    go_ret
    exact ⟨rfl, sb_below w s⟩
  have C33 := Aside0.mk C33
  go_enter Tryd.func16, Tryd.ntmps16
  go_wp2_with (go_at_call 33; refine C33.out.mono ?_; rintro e w1 ⟨rfl, hb⟩)
  go_ret
  exact ⟨rfl, hb⟩
end Go.Proofs.YtiecdhkmlpceoaaDoor.G
