/- json-patch: lazy nodes made (zzRaw, newLazyNode, zzEmptyArray, zzEmptyObject, zzNull). -/
import Derived.Test.YtmomjgkbimeeoaaDoorGvOu
namespace Go.Proofs.YtmomjgkbimeeoaaDoor.G
set_option linter.unusedVariables false
set_option linter.unusedSimpArgs false
open Go.RowKit Go.Proofs.YtmomjgkbimeeoaaDoorW.PrintWords

def RawA (s : List Int) (w : World) (e : Ending) (w' : World) : Prop :=
  ∃ rb, e = .returned (.pointer (some ⟨rb, 0, none⟩)) ∧ Below w.heap.size w w' ∧ Aside0 (RawAt w' (Rng w.heap.size w'.heap.size) rb s)
set_option maxHeartbeats 4000000 in
set_option maxRecDepth 100000 in
theorem raw_calls (S : ByteArray) (w : World) : Calls Tryd.prog 76 #[.string S] w (RawA (bytesOf S) w) := by
  have kb := print_bytes (P := Tryd.prog) 9 92 5 Tryd.underlying9 Tryd.underlying92 Tryd.underlying5 S w
  have hb := conv_below w S
  have hr := conv_row w S
  have hge : S.size ≤ grownCap w S.size 0 5 := Nat.le_trans (by omega) (grownCap_ge w S.size 0 5)
  have HB := Aside0.mk (And.intro hb (And.intro hr hge))
  clear hb hr hge
  go_enter Tryd.func76, Tryd.ntmps76
  go_wp2_with fail
  go_ret
  obtain ⟨hb, hr, hge⟩ := HB.out
  have hlt := hr.1
  refine ⟨_, rfl, hb.alloc hb.size _, ⟨w.heap.size, grownCap w S.size 0 5, ⟨hb.size, by simp [World.size_alloc]⟩, ⟨Nat.le_refl _, by rw [World.size_alloc]; omega⟩, ?_, by rw [bytesOf_length]; exact hge, hr.below (below_alloc1 _)⟩⟩
  rw [bytesOf_length]
  exact heap_alloc_new _ _
def NewA (rb : Nat) (w : World) (e : Ending) (w' : World) : Prop := e = .returned (.pointer (some ⟨w.heap.size, 0, none⟩)) ∧ w' = w.alloc (.cells #[.pointer (some ⟨rb, 0, none⟩), .pointer none, .pointer none, .int .i64 0] 89)
set_option maxHeartbeats 4000000 in
set_option maxRecDepth 100000 in
theorem new_calls (rb : Nat) (w : World) : Calls Tryd.prog 75 #[.pointer (some ⟨rb, 0, none⟩)] w (NewA rb w) := by
  go_enter Tryd.func75, Tryd.ntmps75
  go_wp2_with fail
  go_ret
  exact ⟨rfl, rfl⟩
/-- A raw node made of a text. -/
theorem raw_new {w w1 : World} {rb : Nat} {s : List Int} (hb : Below w.heap.size w w1) (h : RawAt w1 (Rng w.heap.size w1.heap.size) rb s) :
    LzAt (w1.alloc (.cells #[.pointer (some ⟨rb, 0, none⟩), .pointer none, .pointer none, .int .i64 0] 89)) (Rng w.heap.size (w1.alloc (.cells #[.pointer (some ⟨rb, 0, none⟩), .pointer none, .pointer none, .int .i64 0] 89)).heap.size) (.raw s) (.pointer (some ⟨w1.heap.size, 0, none⟩)) := by
  have hs := hb.size
  unfold LzAt
  refine ⟨_, rb, rfl, ⟨hs, by simp [World.size_alloc]⟩, heap_alloc_new _ _, ?_⟩
  refine (h.kept (by simp [World.size_alloc]) (fun g hg _ => Below.heap_alloc _ _ _ hg)).mono (fun g _ hg => ?_)
  unfold Rng at hg ⊢
  rw [World.size_alloc]
  omega
def LzA (t : Lz) (w : World) (e : Ending) (w' : World) : Prop := ∃ o, e = .returned (.pointer o) ∧ Below w.heap.size w w' ∧ Aside0 (LzAt w' (Rng w.heap.size w'.heap.size) t (.pointer o))
theorem LzA.of {t : Lz} {w w' : World} {v : Value} (hb : Below w.heap.size w w') (h : LzAt w' (Rng w.heap.size w'.heap.size) t v) : LzA t w (.returned v) w' := by
  obtain ⟨o, rfl, _⟩ := h.ptr
  exact ⟨o, rfl, hb, ⟨h⟩⟩
set_option maxHeartbeats 4000000 in
set_option maxRecDepth 100000 in
theorem null_calls (w : World) : Calls Tryd.prog 59 #[] w (LzA (.raw bNull) w) := by
  have CR := Aside0.mk (raw_calls ⟨#[110, 117, 108, 108]⟩ w)
  have hbytes : bytesOf ⟨#[110, 117, 108, 108]⟩ = bNull := by decide
  rw [hbytes] at CR
  unfold RawA at CR
  clear hbytes
  go_enter Tryd.func59, Tryd.ntmps59
  go_wp2_with (first
    | (go_at_call 75; refine (new_calls _ _).mono ?_; rintro e w2 ⟨rfl, rfl⟩)
    | (go_at_call 76; refine CR.out.mono ?_; rintro e w1 ⟨rb, rfl, hb, hA⟩))
  go_ret
  exact LzA.of (hb.alloc hb.size _) (raw_new hb hA.out)
end Go.Proofs.YtmomjgkbimeeoaaDoor.G
