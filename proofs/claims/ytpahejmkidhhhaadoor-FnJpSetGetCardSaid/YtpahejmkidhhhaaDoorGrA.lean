/- The reference's reader: its state, and its small steps. -/
import Derived.Test.YtpahejmkidhhhaaDoorProg
import Derived.Test.YtpahejmkidhhhaaDoorWWords
import Derived.Test.YtpahejmkidhhhaaDoorGvJ
import Derived.Laws.AppendOwn
import Derived.WalkKit
import Derived.WalkSpells
import Derived.WalkLawsBesides
import Derived.Deep.Cut
import Derived.Deep.CutRange
import Derived.Deep.CutBlock
import Derived.Deep.RegionWith
import Derived.Deep.QuietTactic
import Derived.BigQuiet
import Derived.Outline
namespace Go.Proofs.YtpahejmkidhhhaaDoor.G
set_option linter.unusedVariables false
set_option linter.unusedSimpArgs false
open Go.RowKit Go.Proofs.YtpahejmkidhhhaaDoorW.PrintWords

/-- The reader lies in block R: its text and its place. -/
structure RS (w : World) (R : Nat) (S : ByteArray) (m : Nat) : Prop where
  lt : R < w.heap.size
  c0 : w.cell? ⟨R, 0, none⟩ = some (.string S)
  c1 : w.cell? ⟨R, 1, none⟩ = some (.int .i64 m)
  fz : w.frozen? ⟨R, 1, none⟩ = false
/-- The bytes from a place on. -/
def rest (S : ByteArray) (m : Nat) : List Int := (bytesOf S).drop m
theorem rest_cons {S : ByteArray} {m : Nat} (h : m < S.size) : rest S m = (S[m].toNat : Int) :: rest S (m + 1) := by
  unfold rest
  have hl : m < (bytesOf S).length := by unfold bytesOf; simpa using h
  rw [List.drop_eq_getElem_cons hl]
  have : (bytesOf S)[m]'hl = (S[m].toNat : Int) := by
    have e : (bytesOf S)[m]? = some (S[m].toNat : Int) := by
      unfold bytesOf
      rw [List.getElem?_map]
      have hd : m < S.data.size := h
      rw [Array.getElem?_toList, Array.getElem?_eq_getElem hd]
      rfl
    rw [List.getElem?_eq_getElem hl] at e
    exact Option.some.inj e
  rw [this]
theorem rest_nil {S : ByteArray} {m : Nat} (h : ¬ m < S.size) : rest S m = [] := by
  unfold rest bytesOf; exact List.drop_eq_nil_of_le (by simpa using h)
theorem rest_len (S : ByteArray) (m : Nat) : (rest S m).length = S.size - m := by unfold rest bytesOf; simp
theorem rest_drop (S : ByteArray) (m k : Nat) : (rest S m).drop k = rest S (m + k) := by unfold rest; rw [List.drop_drop]
/-- What a step of the reader leaves: all as it was, the reader's place apart. -/
structure Mv (w w' : World) (R : Nat) (S : ByteArray) (m : Nat) : Prop where
  g : w.grownBy w' (some R)
  r : RS w' R S m
theorem RS.same {w : World} {R m : Nat} {S : ByteArray} (h : RS w R S m) : Mv w w R S m := ⟨World.grownBy.refl _ _, h⟩
theorem Mv.trans {w w1 w2 : World} {R m m2 : Nat} {S : ByteArray} (h : Mv w w1 R S m) (k : Mv w1 w2 R S m2) : Mv w w2 R S m2 := ⟨h.g.trans k.g, k.r⟩
theorem Mv.drewN {w w1 : World} {R m : Nat} {S : ByteArray} (h : Mv w w1 R S m) (n : Nat) : Mv w (w1.drewN n) R S m := ⟨⟨h.g.os, h.g.tape, h.g.output, h.g.size, h.g.block⟩, ⟨h.r.lt, h.r.c0, h.r.c1, h.r.fz⟩⟩
theorem Mv.set {w w1 : World} {R m : Nat} {S : ByteArray} (h : Mv w w1 R S m) (m2 : Nat) {z : Int} (hz : z = m2) : Mv w (w1.setCell ⟨R, 1, none⟩ (.int .i64 z)) R S m2 := by
  subst hz
  refine ⟨h.g.trans ⟨rfl, rfl, rfl, by simp [World.setCell], fun k hk hn => Below.heap_setCell _ _ _ _ (by rintro rfl; exact hn rfl)⟩, ?_, ?_, ?_, ?_⟩
  · have := h.r.lt; simp [World.setCell]; omega
  · rw [World.cell?_setCell_other _ _ _ _ (by simp)]; exact h.r.c0
  · exact World.cell?_setCell_same _ _ _ h.r.c1
  · rw [World.frozen?_setCell]; exact h.r.fz
/-- The reader's place. -/
def plc (w : World) (R : Nat) : Nat := match w.cell? ⟨R, 1, none⟩ with | some v => (intOf v).toNat | none => 0
theorem RS.plc {w : World} {R m : Nat} {S : ByteArray} (h : RS w R S m) : plc w R = m := by unfold G.plc; rw [h.c1]; simp [intOf]
set_option maxHeartbeats 4000000 in
set_option maxRecDepth 100000 in
theorem here_calls (S : ByteArray) (R m : Nat) (w : World) (h : RS w R S m) : Calls Tryd.prog 50 #[.pointer (some ⟨R, 0, none⟩)] w (fun e w' => e = .returned (.int .u8 ((rest S m).getD 0 0)) ∧ ∃ n, w' = w.drewN n) := by
  obtain ⟨h0, hc0, hc1, hfz⟩ := h
  by_cases hlt : m < S.size
  · go_enter Tryd.func50, Tryd.ntmps50
    go_upto_region 1 with fail
    go_quiet (fail)
    go_upto_region 2 with fail
    go_quiet (fail)
    go_wp2_with fail
    go_ret
    exact ⟨by rw [rest_cons hlt]; rfl, _, World.drewN_drewN _ _ _⟩
  · go_enter Tryd.func50, Tryd.ntmps50
    go_upto_region 1 with fail
    go_quiet (fail)
    go_wp2_with fail
    go_ret
    exact ⟨by rw [rest_nil hlt]; rfl, _, rfl⟩
/-- A step that takes a byte or not. -/
def Took (b : Bool) (w : World) (R : Nat) (S : ByteArray) (m : Nat) (e : Ending) (w' : World) : Prop := e = .returned (.bool b) ∧ Mv w w' R S (if b then m + 1 else m)
set_option maxHeartbeats 4000000 in
set_option maxRecDepth 100000 in
theorem take_calls (S : ByteArray) (R m : Nat) (c : Int) (w : World) (h : RS w R S m) (hs : S.size ≤ 140737488351232) : Calls Tryd.prog 69 #[.pointer (some ⟨R, 0, none⟩), .int .u8 c] w (Took (tk c (rest S m)) w R S m) := by
  have H := Aside0.mk h
  obtain ⟨h0, hc0, hc1, hfz⟩ := h
  by_cases hlt : m < S.size
  · by_cases hc : ((S[m].toNat : Int) == c) = true
    · go_enter Tryd.func69, Tryd.ntmps69
      go_upto_region 1 with fail
      go_quiet (fail)
      go_wp2_with fail
      go_ret
      rw [rest_cons hlt, tk, hc]
      exact ⟨rfl, (H.out.same.drewN _).set (m + 1) (by simp)⟩
    · have hc : ((S[m].toNat : Int) == c) = false := by simpa using hc
      go_enter Tryd.func69, Tryd.ntmps69
      go_upto_region 1 with fail
      go_quiet (fail)
      go_wp2_with fail
      go_ret
      rw [rest_cons hlt, tk, hc]
      exact ⟨rfl, H.out.same.drewN _⟩
  · go_enter Tryd.func69, Tryd.ntmps69
    go_upto_region 1 with fail
    go_quiet (fail)
    go_wp2_with fail
    go_ret
    rw [rest_nil hlt, tk]
    exact ⟨rfl, H.out.same.drewN _⟩
theorem isBl_or (x : Int) : isBl x = (x == 32 || x == 9 || x == 10 || x == 13) := rfl
set_option maxHeartbeats 4000000 in
set_option maxRecDepth 100000 in
theorem blank_calls (x : Int) (w : World) : Calls Tryd.prog 32 #[.int .u8 x] w (fun e w' => e = .returned (.bool (isBl x)) ∧ w' = w) := by
  by_cases h1 : x = 32
  · subst h1; go_enter Tryd.func32, Tryd.ntmps32; go_wp2; go_ret; exact ⟨rfl, rfl⟩
  · by_cases h2 : x = 9
    · subst h2; go_enter Tryd.func32, Tryd.ntmps32; go_wp2; go_ret; exact ⟨rfl, rfl⟩
    · by_cases h3 : x = 10
      · subst h3; go_enter Tryd.func32, Tryd.ntmps32; go_wp2; go_ret; exact ⟨rfl, rfl⟩
      · by_cases h4 : x = 13
        · subst h4; go_enter Tryd.func32, Tryd.ntmps32; go_wp2; go_ret; exact ⟨rfl, rfl⟩
        · have b1 : (x == 32) = false := by simpa using h1
          have b2 : (x == 9) = false := by simpa using h2
          have b3 : (x == 10) = false := by simpa using h3
          have b4 : (x == 13) = false := by simpa using h4
          have b : isBl x = false := by unfold isBl; rw [b1, b2, b3, b4]; rfl
          rw [b]
          clear h1 h2 h3 h4 b
          go_enter Tryd.func32, Tryd.ntmps32; go_wp2; go_ret; exact ⟨rfl, rfl⟩
theorem bl_cons (x : Int) (l : List Int) : bl (x :: l) = if isBl x then bl l + 1 else 0 := rfl
theorem dg_cons (x : Int) (l : List Int) : dg (x :: l) = if isDg x then dg l + 1 else 0 := rfl
set_option maxHeartbeats 4000000 in
set_option maxRecDepth 100000 in
theorem blanks_calls (S : ByteArray) (R m : Nat) (w : World) (h : RS w R S m) (hm : m ≤ S.size) (hs : S.size ≤ 140737488351232) : Calls Tryd.prog 36 #[.pointer (some ⟨R, 0, none⟩)] w (fun e w' => e = .returned (.tuple #[]) ∧ Mv w w' R S (m + bl (rest S m))) := by
  have H := Aside0.mk h
  clear h
  go_enter Tryd.func36, Tryd.ntmps36
  go_wp2_with fail
  go_loopw [] (fun wr => ∃ k, k ≤ S.size ∧ Aside0 (Mv w wr R S k) ∧ Aside0 (k + bl (rest S k) = m + bl (rest S m))) (fun wr => S.size - plc wr R)
  case atStart => exact ⟨m, hm, ⟨H.out.same⟩, ⟨rfl⟩⟩
  case round =>
    obtain ⟨k, hk, HM, HK⟩ := hrel
    obtain ⟨h0, hc0, hc1, hfz⟩ := HM.out.r
    by_cases hlt : k < S.size
    · have B := Aside0.mk (fun W => blank_calls (S[k].toNat : Int) W)
      cases hb : isBl (S[k].toNat : Int) with
      | true =>
        rw [hb] at B
        go_upto_region 0 with fail
        go_quiet (first | (go_at_call 32; exact Calls.quiet_of_same (B.out _)))
        go_wp2_with fail
        have H2 := (HM.out.drewN nq).set (k + 1) (z := (k : Int) + 1) (by simp)
        refine ⟨⟨k + 1, by omega, ⟨H2⟩, ⟨?_⟩⟩, ?_⟩
        · rw [← HK.out, rest_cons hlt, bl_cons, hb]; simp; omega
        · rw [H2.r.plc, HM.out.r.plc]; omega
      | false =>
        rw [hb] at B
        go_upto_region 0 with fail
        go_quiet (first | (go_at_call 32; exact Calls.quiet_of_same (B.out _)))
        go_wp2_with fail
        go_end0
        have : k = m + bl (rest S m) := by rw [← HK.out, rest_cons hlt, bl_cons, hb]; simp
        rw [← this]
        exact ⟨rfl, HM.out.drewN _⟩
    · go_upto_region 0 with fail
      go_quiet (fail)
      go_wp2_with fail
      go_end0
      have : k = m + bl (rest S m) := by rw [← HK.out, rest_nil hlt]; rfl
      rw [← this]
      exact ⟨rfl, HM.out.drewN _⟩
end Go.Proofs.YtpahejmkidhhhaaDoor.G
