/- The reference's reader: its state, and its small steps. -/
import Derived.Test.YtmomjgkbimeeoaaProg
import Derived.Test.YtmomjgkbimeeoaaWWords
import Derived.Test.YtmomjgkbimeeoaaGvJ
import Derived.Laws.AppendOwn
import Derived.WalkKit
import Derived.WalkSpells
import Derived.WalkLawsBesides
import Derived.Deep.Cut
import Derived.Deep.CutRange
import Derived.Deep.CutBlock
import Derived.Deep.RegionWith
import Derived.Deep.QuietTactic
import Derived.BigQuiet
import Derived.Outline
namespace Go.Proofs.Ytmomjgkbimeeoaa.G
set_option linter.unusedVariables false
set_option linter.unusedSimpArgs false
open Go.RowKit Go.Proofs.YtmomjgkbimeeoaaW.PrintWords

/-- The reader lies in block R: its text and its place. -/
structure RS (w : World) (R : Nat) (S : ByteArray) (m : Nat) : Prop where
  lt : R < w.heap.size
  c0 : w.cell? ⟨R, 0, none⟩ = some (.string S)
  c1 : w.cell? ⟨R, 1, none⟩ = some (.int .i64 m)
  fz : w.frozen? ⟨R, 1, none⟩ = false
/-- The bytes from a place on. -/
def rest (S : ByteArray) (m : Nat) : List Int := (bytesOf S).drop m
theorem rest_cons {S : ByteArray} {m : Nat} (h : m < S.size) : rest S m = (S[m].toNat : Int) :: rest S (m + 1) := by
  unfold rest
  have hl : m < (bytesOf S).length := by unfold bytesOf; simpa using h
  rw [List.drop_eq_getElem_cons hl]
  have : (bytesOf S)[m]'hl = (S[m].toNat : Int) := by
    have e : (bytesOf S)[m]? = some (S[m].toNat : Int) := by
      unfold bytesOf
      rw [List.getElem?_map]
      have hd : m < S.data.size := h
      rw [Array.getElem?_toList, Array.getElem?_eq_getElem hd]
      rfl
    rw [List.getElem?_eq_getElem hl] at e
    exact Option.some.inj e
  rw [this]
theorem rest_nil {S : ByteArray} {m : Nat} (h : ¬ m < S.size) : rest S m = [] := by
  unfold rest bytesOf; exact List.drop_eq_nil_of_le (by simpa using h)
theorem rest_len (S : ByteArray) (m : Nat) : (rest S m).length = S.size - m := by unfold rest bytesOf; simp
theorem rest_drop (S : ByteArray) (m k : Nat) : (rest S m).drop k = rest S (m + k) := by unfold rest; rw [List.drop_drop]
/-- What a step of the reader leaves: all as it was, the reader's place apart. -/
structure Mv (w w' : World) (R : Nat) (S : ByteArray) (m : Nat) : Prop where
  g : w.grownBy w' (some R)
  r : RS w' R S m
theorem RS.same {w : World} {R m : Nat} {S : ByteArray} (h : RS w R S m) : Mv w w R S m := ⟨World.grownBy.refl _ _, h⟩
theorem Mv.trans {w w1 w2 : World} {R m m2 : Nat} {S : ByteArray} (h : Mv w w1 R S m) (k : Mv w1 w2 R S m2) : Mv w w2 R S m2 := ⟨h.g.trans k.g, k.r⟩
theorem Mv.drewN {w w1 : World} {R m : Nat} {S : ByteArray} (h : Mv w w1 R S m) (n : Nat) : Mv w (w1.drewN n) R S m := ⟨⟨h.g.os, h.g.tape, h.g.output, h.g.size, h.g.block⟩, ⟨h.r.lt, h.r.c0, h.r.c1, h.r.fz⟩⟩
theorem Mv.set {w w1 : World} {R m : Nat} {S : ByteArray} (h : Mv w w1 R S m) (m2 : Nat) {z : Int} (hz : z = m2) : Mv w (w1.setCell ⟨R, 1, none⟩ (.int .i64 z)) R S m2 := by
  subst hz
  refine ⟨h.g.trans ⟨rfl, rfl, rfl, by simp [World.setCell], fun k hk hn => Below.heap_setCell _ _ _ _ (by rintro rfl; exact hn rfl)⟩, ?_, ?_, ?_, ?_⟩
  · have := h.r.lt; simp [World.setCell]; omega
  · rw [World.cell?_setCell_other _ _ _ _ (by simp)]; exact h.r.c0
  · exact World.cell?_setCell_same _ _ _ h.r.c1
  · rw [World.frozen?_setCell]; exact h.r.fz
/-- The reader's place. -/
def plc (w : World) (R : Nat) : Nat := match w.cell? ⟨R, 1, none⟩ with | some v => (intOf v).toNat | none => 0
theorem RS.plc {w : World} {R m : Nat} {S : ByteArray} (h : RS w R S m) : plc w R = m := by unfold G.plc; rw [h.c1]; simp [intOf]
set_option maxHeartbeats 4000000 in
set_option maxRecDepth 100000 in
theorem here_calls (S : ByteArray) (R m : Nat) (w : World) (h : RS w R S m) : Calls Try.prog 31 #[.pointer (some ⟨R, 0, none⟩)] w (fun e w' => e = .returned (.int .u8 ((rest S m).getD 0 0)) ∧ ∃ n, w' = w.drewN n) := by
  obtain ⟨h0, hc0, hc1, hfz⟩ := h
  by_cases hlt : m < S.size
  · go_enter Try.func31, Try.ntmps31
    go_upto_region 1 with fail
    go_quiet (fail)
    go_upto_region 2 with fail
    go_quiet (fail)
    go_wp2_with fail
    go_ret
    exact ⟨by rw [rest_cons hlt]; rfl, _, World.drewN_drewN _ _ _⟩
  · go_enter Try.func31, Try.ntmps31
    go_upto_region 1 with fail
    go_quiet (fail)
    go_wp2_with fail
    go_ret
    exact ⟨by rw [rest_nil hlt]; rfl, _, rfl⟩
/-- A step that takes a byte or not. -/
def Took (b : Bool) (w : World) (R : Nat) (S : ByteArray) (m : Nat) (e : Ending) (w' : World) : Prop := e = .returned (.bool b) ∧ Mv w w' R S (if b then m + 1 else m)
set_option maxHeartbeats 4000000 in
set_option maxRecDepth 100000 in
theorem take_calls (S : ByteArray) (R m : Nat) (c : Int) (w : World) (h : RS w R S m) (hs : S.size ≤ 140737488351232) : Calls Try.prog 27 #[.pointer (some ⟨R, 0, none⟩), .int .u8 c] w (Took (tk c (rest S m)) w R S m) := by
  have H := Aside0.mk h
  obtain ⟨h0, hc0, hc1, hfz⟩ := h
  by_cases hlt : m < S.size
  · by_cases hc : ((S[m].toNat : Int) == c) = true
    · go_enter Try.func27, Try.ntmps27
      go_upto_region 1 with fail
      go_quiet (fail)
      go_wp2_with fail
      go_ret
      rw [rest_cons hlt, tk, hc]
      exact ⟨rfl, (H.out.same.drewN _).set (m + 1) (by simp)⟩
    · have hc : ((S[m].toNat : Int) == c) = false := by simpa using hc
      go_enter Try.func27, Try.ntmps27
      go_upto_region 1 with fail
      go_quiet (fail)
      go_wp2_with fail
      go_ret
      rw [rest_cons hlt, tk, hc]
      exact ⟨rfl, H.out.same.drewN _⟩
  · go_enter Try.func27, Try.ntmps27
    go_upto_region 1 with fail
    go_quiet (fail)
    go_wp2_with fail
    go_ret
    rw [rest_nil hlt, tk]
    exact ⟨rfl, H.out.same.drewN _⟩
theorem isBl_or (x : Int) : isBl x = (x == 32 || x == 9 || x == 10 || x == 13) := rfl
theorem bl_cons (x : Int) (l : List Int) : bl (x :: l) = if isBl x then bl l + 1 else 0 := rfl
theorem dg_cons (x : Int) (l : List Int) : dg (x :: l) = if isDg x then dg l + 1 else 0 := rfl
end Go.Proofs.Ytmomjgkbimeeoaa.G
