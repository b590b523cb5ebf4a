/- The comparison of a query, through the harness. -/
import Derived.Test.YtpadeljjepljcaaDoorGvA
namespace Go.Proofs.YtpadeljjepljcaaDoor.G
set_option linter.unusedVariables false
set_option linter.unusedSimpArgs false
open Go.RowKit Go.Proofs.YtpadeljjepljcaaDoorW.PrintWords

def Q0 : Array Value := #[.string ⟨#[]⟩, .string ⟨#[]⟩, .string ⟨#[]⟩, .bool false, .bool false, .bool false, .bool false, .string ⟨#[]⟩, .bool false, .bool false, .string ⟨#[]⟩, .string ⟨#[]⟩, .string ⟨#[]⟩]
set_option maxHeartbeats 4000000 in
set_option maxRecDepth 100000 in
theorem door_calls (ne v r : Bool) (w : World) :
    Calls Tryd.prog 5 #[rG (kdn v) (wrd v), .string (opn ne), .string (wrd r)] w (fun e w' => e = .returned (.bool (ansB ne v r)) ∧ Below w.heap.size w w') := by
  have CQ := Aside0.mk (fun R W hR h1 h2 => query_calls ne v r R W hR h1 h2)
  unfold rG
  have h1 := heap_alloc_new w (.cells #[.int .i64 (kdn v), .string (wrd v), .string ⟨#[]⟩, .float .f64 0, .int .i64 0, .slice none 0 0] 31)
  generalize hk : kdn v = k at *
  generalize hw : wrd v = vw at *
  generalize hr : wrd r = rw_ at *
  generalize ho : opn ne = op_ at *
  go_enter Tryd.func5, Tryd.ntmps5
  go_wp2_with (go_at_call 7; refine (CQ.out (w.heap.size + 1) _ (by rw [World.size_alloc, World.size_alloc]; omega) (blk_cell (heap_alloc_new' _ _ (World.size_alloc _ _)) rfl) (blk_cell (heap_alloc_new' _ _ (World.size_alloc _ _)) rfl)).mono ?_; rintro e w1 ⟨rfl, hb⟩)
  go_ret
  exact ⟨rfl, below_step ((below_alloc1 _).alloc (by rw [World.size_alloc]; omega) _) hb⟩
set_option maxHeartbeats 4000000 in
set_option maxRecDepth 100000 in
theorem impl_calls (ne v r : Bool) (w : World) :
    Calls Tryd.prog 4 #[rI (kdn v) (wrd v), .string (opn ne), .string (wrd r)] w (fun e w' => e = .returned (.bool (ansB ne v r)) ∧ Below w.heap.size w w') := by
  have CD := Aside0.mk (fun W => door_calls ne v r W)
  have CO := Aside0.mk (fun W => of_calls (kdn v) (wrd v) W)
  unfold rI at *
  generalize kdn v = k at *
  generalize wrd v = vw at *
  generalize wrd r = rw_ at *
  generalize opn ne = op_ at *
  have h1 := heap_alloc_new w (.cells #[.int .i64 k, .string vw, .string ⟨#[]⟩, .float .f64 0, .bool true] 24)
  go_enter Tryd.func4, Tryd.ntmps4
  go_wp2_with (first
    | (go_at_call 5; refine (CD.out _).mono ?_; rintro e w2 ⟨rfl, hb2⟩)
    | (go_at_call 6; refine (CO.out _).mono ?_; rintro e w1 ⟨rfl, hb⟩))
  go_ret
  exact ⟨rfl, below_step (below_step (below_alloc1 _) hb) hb2⟩
set_option maxHeartbeats 4000000 in
set_option maxRecDepth 100000 in
theorem walk (v r : Bool) (w : World) :
    Calls Tryd.prog 3 #[.bool v, .bool r] w (fun e w' => e = .returned (.bool true) ∧ Below w.heap.size w w') := by
  have C1 := Aside0.mk (fun W => impl_calls false v r W)
  have C2 := Aside0.mk (fun W => impl_calls true v r W)
  have hF : ∀ k vw W, Below (w.alloc (.cells #[.int .i64 k, .string vw, .string ⟨#[]⟩, .float .f64 0, .bool true] 24)).heap.size (w.alloc (.cells #[.int .i64 k, .string vw, .string ⟨#[]⟩, .float .f64 0, .bool true] 24)) W → W.heap[w.heap.size]? = some (.cells #[.int .i64 k, .string vw, .string ⟨#[]⟩, .float .f64 0, .bool true] 24) := fun k vw W hb => (hb.block _ (by rw [World.size_alloc]; omega)).trans (heap_alloc_new _ _)
  have HF := Aside0.mk hF
  clear hF
  unfold rI kdn wrd opn tru fls ansB at *
  have hsf : ∀ (a : Addr) (W : World), (store a (.float .f64 0)).run Tryd.prog W = stored Tryd.prog W a (.float .f64 0) .plain := fun a W => run_store _ W a _ _ rfl
  rcases v with _ | _ <;> rcases r with _ | _
  all_goals simp only [if_true, Bool.false_eq_true, if_false] at *
  all_goals
    go_enter Tryd.func3, Tryd.ntmps3
    go_wp2_with (first
      | (go_at_call 4; have hbx := hb; refine (C2.out _).mono ?_; rintro e w2 ⟨rfl, hb2⟩)
      | (go_at_call 4; refine (C1.out _).mono ?_; rintro e w1 ⟨rfl, hb⟩; have hq := HF.out _ _ _ hb; have r0 := blk_cell (j := 0) hq rfl; have r1 := blk_cell (j := 1) hq rfl; have r2 := blk_cell (j := 2) hq rfl; have r3 := blk_cell (j := 3) hq rfl; have r4 := blk_cell (j := 4) hq rfl; clear hq))
    go_ret
    exact ⟨rfl, below_step (below_step (below_alloc1 _) hb) hb2⟩
end Go.Proofs.YtpadeljjepljcaaDoor.G
