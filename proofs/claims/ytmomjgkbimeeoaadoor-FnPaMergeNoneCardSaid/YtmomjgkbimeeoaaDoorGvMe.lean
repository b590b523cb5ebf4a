/- json-patch: empty arrays and objects made. -/
import Derived.Test.YtmomjgkbimeeoaaDoorGvMk
namespace Go.Proofs.YtmomjgkbimeeoaaDoor.G
set_option linter.unusedVariables false
set_option linter.unusedSimpArgs false
open Go.RowKit Go.Proofs.YtmomjgkbimeeoaaDoorW.PrintWords

set_option maxHeartbeats 4000000 in
set_option maxRecDepth 100000 in
theorem eary_calls (w : World) : Calls Tryd.prog 77 #[] w (LzA (.ary []) w) := by
  have CR := Aside0.mk (raw_calls ⟨#[91, 93]⟩ w)
  have hbytes : bytesOf ⟨#[91, 93]⟩ = [91, 93] := by decide
  rw [hbytes] at CR
  unfold RawA at CR
  clear hbytes
  go_enter Tryd.func77, Tryd.ntmps77
  go_wp2_with (first
    | (go_at_call 76; refine CR.out.mono ?_; rintro e w1 ⟨rb, rfl, hb, hA⟩))
  go_ret
  have hs := hb.size
  obtain ⟨e1, e2, e3, hb3⟩ := alloc3 w1 (.cells #[] 68) (.cells #[.pointer none, .slice (some ⟨w1.heap.size, 0, none⟩) 0 0] 115) (.cells #[.pointer (some ⟨rb, 0, none⟩), .pointer none, .pointer (some ⟨w1.heap.size + 1, 0, none⟩), .int .i64 2] 89)
  have hsz : (((w1.alloc (.cells #[] 68)).alloc (.cells #[.pointer none, .slice (some ⟨w1.heap.size, 0, none⟩) 0 0] 115)).alloc (.cells #[.pointer (some ⟨rb, 0, none⟩), .pointer none, .pointer (some ⟨w1.heap.size + 1, 0, none⟩), .int .i64 2] 89)).heap.size = w1.heap.size + 3 := by simp [World.size_alloc]
  refine LzA.of (v := .pointer (some ⟨w1.heap.size + 1 + 1, 0, none⟩)) (below_step hb hb3) ?_
  rw [hsz]
  unfold LzAt
  refine ⟨w1.heap.size + 1 + 1, rb, w1.heap.size + 1, some ⟨w1.heap.size, 0, none⟩, 0, 0, .pointer none, [], Rng w.heap.size w1.heap.size, fun _ => False, rfl, ⟨by omega, by omega⟩, ⟨by omega, by omega⟩, e3, hA.out.kept hb3.size (fun g hg _ => hb3.block g hg), e2, ⟨⟨rfl, .inr ⟨w1.heap.size, 0, #[], rfl, Nat.zero_le _, e1, Nat.le_refl _, by decide, rfl, rfl⟩⟩, fun g hg => ?_⟩, by unfold LzsAt; rfl, fun g hg => ?_, fun g hg => hg.elim⟩
  · have : w1.heap.size = g := by simpa [Value.ownBlock] using hg
    subst this
    exact ⟨by omega, by omega⟩
  · unfold Rng at hg ⊢
    refine ⟨⟨by omega, by omega⟩, by omega, by omega, fun e => ?_, fun h => h⟩
    have : g = w1.heap.size := by simpa [Value.ownBlock] using e
    omega
set_option maxHeartbeats 4000000 in
set_option maxRecDepth 100000 in
theorem eobj_calls (w : World) : Calls Tryd.prog 78 #[] w (LzA (.doc [] []) w) := by
  have CR := Aside0.mk (raw_calls ⟨#[123, 125]⟩ w)
  have hbytes : bytesOf ⟨#[123, 125]⟩ = [123, 125] := by decide
  rw [hbytes] at CR
  unfold RawA at CR
  clear hbytes
  have hmm := @run_makeMap Tryd.prog
  go_enter Tryd.func78, Tryd.ntmps78
  go_wp2_with (first
    | (go_at_call 76; refine CR.out.mono ?_; rintro e w1 ⟨rb, rfl, hb, hA⟩))
  go_ret
  have hs := hb.size
  obtain ⟨e1, e2, e3, hb3⟩ := alloc3 w1 (.map #[] 0) (.cells #[.pointer none, .slice none 0 0, .map (some w1.heap.size), .pointer none] 112) (.cells #[.pointer (some ⟨rb, 0, none⟩), .pointer (some ⟨w1.heap.size + 1, 0, none⟩), .pointer none, .int .i64 1] 89)
  have hsz : (((w1.alloc (.map #[] 0)).alloc (.cells #[.pointer none, .slice none 0 0, .map (some w1.heap.size), .pointer none] 112)).alloc (.cells #[.pointer (some ⟨rb, 0, none⟩), .pointer (some ⟨w1.heap.size + 1, 0, none⟩), .pointer none, .int .i64 1] 89)).heap.size = w1.heap.size + 3 := by simp [World.size_alloc]
  refine LzA.of (v := .pointer (some ⟨w1.heap.size + 1 + 1, 0, none⟩)) (below_step hb hb3) ?_
  have hM : Mp (((w1.alloc (.map #[] 0)).alloc (.cells #[.pointer none, .slice none 0 0, .map (some w1.heap.size), .pointer none] 112)).alloc (.cells #[.pointer (some ⟨rb, 0, none⟩), .pointer (some ⟨w1.heap.size + 1, 0, none⟩), .pointer none, .int .i64 1] 89)) w1.heap.size 0 (fOf [] []) := by
    refine (Mp.made w1).kept ?_
    rw [e1]; exact (heap_alloc_new _ _).symm
  rw [hsz]
  unfold LzAt
  refine ⟨w1.heap.size + 1 + 1, rb, w1.heap.size + 1, none, 0, 0, w1.heap.size, 0, .pointer none, .pointer none, [], Rng w.heap.size w1.heap.size, fun _ => False, rfl, ⟨by omega, by omega⟩, ⟨by omega, by omega⟩, ⟨by omega, by omega⟩, e3, hA.out.kept hb3.size (fun g hg _ => hb3.block g hg), e2, ⟨World.ownsRow_nil _ _ _ _, fun g hg => by cases hg⟩, hM, Nat.le_refl _, by unfold LzsAt; rfl, fun g hg => ?_, fun g hg => hg.elim, List.nodup_nil, rfl⟩
  unfold Rng at hg ⊢
  refine ⟨⟨by omega, by omega⟩, by omega, by omega, by omega, ?_, fun h => h⟩
  intro e
  cases e
end Go.Proofs.YtmomjgkbimeeoaaDoor.G
