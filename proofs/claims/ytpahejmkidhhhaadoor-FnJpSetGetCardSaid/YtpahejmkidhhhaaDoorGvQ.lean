/- jpPlaces: the places of a JSON text of at most 2^16 bytes. -/
import Derived.Test.YtpahejmkidhhhaaDoorGrP
namespace Go.Proofs.YtpahejmkidhhhaaDoor.G
set_option linter.unusedVariables false
set_option linter.unusedSimpArgs false
open Go.RowKit Go.Proofs.YtpahejmkidhhhaaDoorW.PrintWords

def jpo (S : ByteArray) : Option Pl := if 65536 < S.size then none else J (bytesOf S)
theorem place_close {fn : Func} (hfn : fn.results = #[.cell 2 27, .tmp 3]) {w W : World} {p0 p1 p2 p3 p4 : Value} {k b z : Int} {na : Option Addr} {nn nc : Nat} {ka : Option Addr} {kn kc : Nat} {ok : Bool} {o : Option Pl}
    (hB : W.heap[w.heap.size]? = some (.cells #[p0, p1, p2, p3, p4] 27)) (hb : Below w.heap.size w W)
    (hA : match o with | none => ok = false | some t => ok = true ∧ PlAt W (From (w.heap.size + 1)) t [.int .i64 k, .int .i64 b, .int .i64 z, .slice na nn nc, .slice ka kn kc])
    (a : Act) (h2 : a.tmps.getD 2 undef = .pointer (some ⟨w.heap.size, 0, none⟩)) (h3 : a.tmps.getD 3 undef = .bool ok) (hd : a.defers = []) :
    bodyPost Tryd.prog fn (PlcA o w) .ret a (((((W.setCell ⟨w.heap.size, 0, none⟩ (.int .i64 k)).setCell ⟨w.heap.size, 1, none⟩ (.int .i64 b)).setCell ⟨w.heap.size, 2, none⟩ (.int .i64 z)).setCell ⟨w.heap.size, 3, none⟩ (.slice na nn nc)).setCell ⟨w.heap.size, 4, none⟩ (.slice ka kn kc)) := by
  have e0 := res_put (j := 0) (v := .int .i64 k) hB rfl
  have e1 := res_put (j := 1) (v := .int .i64 b) e0 rfl
  have e2 := res_put (j := 2) (v := .int .i64 z) e1 rfl
  have e3 := res_put (j := 3) (v := .slice na nn nc) e2 rfl
  have e4 := res_put (j := 4) (v := .slice ka kn kc) e3 rfl
  have gs : ∀ (V : World) (j : Nat) (v : Value), V.grownBy (V.setCell ⟨w.heap.size, j, none⟩ v) (some w.heap.size) := fun V j v => ⟨rfl, rfl, rfl, by simp [World.setCell], fun i hi hn => Below.heap_setCell _ _ _ _ (by intro e; exact hn (by rw [e]))⟩
  have hg := ((((gs W 0 (.int .i64 k)).trans (gs _ 1 (.int .i64 b))).trans (gs _ 2 (.int .i64 z))).trans (gs _ 3 (.slice na nn nc))).trans (gs _ 4 (.slice ka kn kc))
  have hb' := ((((hb.setCell (p := ⟨w.heap.size, 0, none⟩) (Nat.le_refl _) (.int .i64 k)).setCell (p := ⟨w.heap.size, 1, none⟩) (Nat.le_refl _) (.int .i64 b)).setCell (p := ⟨w.heap.size, 2, none⟩) (Nat.le_refl _) (.int .i64 z)).setCell (p := ⟨w.heap.size, 3, none⟩) (Nat.le_refl _) (.slice na nn nc)).setCell (p := ⟨w.heap.size, 4, none⟩) (Nat.le_refl _) (.slice ka kn kc)
  refine bodyPost_ret (value_ret hfn h2 h3 e4 rfl) hd ⟨k, b, z, na, nn, nc, ka, kn, kc, ok, rfl, hb', ⟨?_⟩⟩
  cases o with
  | none => exact hA
  | some t =>
    obtain ⟨a1, a3⟩ := hA
    refine ⟨a1, PlAt.mono (fun g _ hF => ?_) (PlAt.kept (fun g hgl hF => hg.block g hgl (by intro e; cases e; unfold From at hF; omega)) a3)⟩
    unfold From at hF ⊢; omega
set_option maxHeartbeats 8000000 in
set_option maxRecDepth 100000 in
theorem jpPlaces_calls (S : ByteArray) (w : World) (hs : S.size ≤ 2147483647) : Calls Tryd.prog 14 #[.string S] w (PlcA (jpo S) w) := by
  have hb0 := heap_alloc_new w (.cells #[.int .i64 0, .int .i64 0, .int .i64 0, .slice none 0 0, .slice none 0 0] 27)
  have hB0 : Below w.heap.size w (w.alloc (.cells #[.int .i64 0, .int .i64 0, .int .i64 0, .slice none 0 0, .slice none 0 0] 27)) := (Below.refl _ _).alloc (Nat.le_refl _) _
  rcases Decidable.em (65536 < S.size) with hg | hg
  · have hJ : Aside0 (jpo S = none) := ⟨by unfold jpo; rw [if_pos hg]⟩
    have r0 := blk_cell (j := 0) hb0 rfl
    have r1 := blk_cell (j := 1) hb0 rfl
    have r2 := blk_cell (j := 2) hb0 rfl
    have r3 := blk_cell (j := 3) hb0 rfl
    have r4 := blk_cell (j := 4) hb0 rfl
    have rf := fun j => blk_froz (j := j) hb0
    have HB := Aside0.mk (And.intro hb0 hB0)
    clear hb0 hB0
    go_enter Tryd.func14, Tryd.ntmps14
    go_wp2
    (try simp only [Exit.inBlock, Exit.then])
    rw [hJ.out]
    exact bodyPost_ret (value_ret rfl rfl rfl HB.out.1 rfl) rfl ⟨0, 0, 0, none, 0, 0, none, 0, 0, false, rfl, HB.out.2, ⟨rfl⟩⟩
  · have hJ : Aside0 (jpo S = J (bytesOf S)) := ⟨by unfold jpo; rw [if_neg hg]⟩
    have C := places_calls S (w.alloc (.cells #[.int .i64 0, .int .i64 0, .int .i64 0, .slice none 0 0, .slice none 0 0] 27)) hs
    have HF := Aside0.mk (fun W (hb : Below (w.alloc (.cells #[.int .i64 0, .int .i64 0, .int .i64 0, .slice none 0 0, .slice none 0 0] 27)).heap.size (w.alloc (.cells #[.int .i64 0, .int .i64 0, .int .i64 0, .slice none 0 0, .slice none 0 0] 27)) W) => And.intro ((hb.block w.heap.size (by rw [World.size_alloc]; omega)).trans hb0) (below_step hB0 hb))
    have C := Aside0.mk C
    clear hb0 hB0
    go_enter Tryd.func14, Tryd.ntmps14
    go_wp2_with (go_at_call 27; refine C.out.mono ?_; rintro e w1 ⟨k, b, z, na, nn, nc, ka, kn, kc, ok, rfl, hb, hA⟩; have HB := Aside0.mk (HF.out w1 hb); have r0 := blk_cell (j := 0) HB.out.1 rfl; have r1 := blk_cell (j := 1) HB.out.1 rfl; have r2 := blk_cell (j := 2) HB.out.1 rfl; have r3 := blk_cell (j := 3) HB.out.1 rfl; have r4 := blk_cell (j := 4) HB.out.1 rfl; have rf := fun j => blk_froz (j := j) HB.out.1)
    (try simp only [Exit.inBlock, Exit.then])
    rw [hJ.out]
    refine place_close rfl HB.out.1 HB.out.2 ?_ _ rfl rfl rfl
    have := hA.out
    rw [World.size_alloc] at this
    exact this
end Go.Proofs.YtpahejmkidhhhaaDoor.G
