/- The comparison of a query for true and false. -/
import Derived.Test.YtpadeljjepljcaaDoorProg
import Derived.Test.YtpadeljjepljcaaDoorWWords
import Derived.Laws.AppendOwn
import Derived.Laws.ResultCell
import Derived.Laws.Rows
import Derived.WalkKit
import Derived.WalkSpells
import Derived.WalkLawsBesides
import Derived.Deep.Cut
import Derived.Deep.CutRange
import Derived.Deep.CutBlock
import Derived.Deep.RegionWith
import Derived.Deep.QuietTactic
import Derived.BigQuiet
import Derived.Outline
namespace Go.Proofs.YtpadeljjepljcaaDoor.G
set_option linter.unusedVariables false
set_option linter.unusedSimpArgs false
open Go.RowKit Go.Proofs.YtpadeljjepljcaaDoorW.PrintWords

theorem blk_cell {W : World} {h j : Nat} {cs : Array Value} {e : TypeId} {v : Value} (hb : W.heap[h]? = some (.cells cs e)) (hj : cs[j]? = some v) : W.cell? ⟨h, j, none⟩ = some v := by unfold World.cell?; simp [hb, hj]
theorem blk_froz {W : World} {h j : Nat} {cs : Array Value} {e : TypeId} (hb : W.heap[h]? = some (.cells cs e)) : W.frozen? ⟨h, j, none⟩ = false := by unfold World.frozen?; simp [hb]
theorem below_alloc1 {w : World} (o : Obj) : Below w.heap.size w (w.alloc o) := (Below.refl _ _).alloc (Nat.le_refl _) o
/-- A Result of gjson's and of the harness's, of a kind without a number. -/
def rI (k : Int) (raw : ByteArray) : Value := .agg #[.int .i64 k, .string raw, .string ⟨#[]⟩, .float .f64 0, .bool true]
def rG (k : Int) (raw : ByteArray) : Value := .agg #[.int .i64 k, .string raw, .string ⟨#[]⟩, .float .f64 0, .int .i64 0, .slice none 0 0]
theorem res31 {fn : Func} (hfn : fn.results = #[.cell 2 31]) {tmps : Array Value} {W : World} {hh : Nat} {cs : Array Value} (h2 : tmps.getD 2 undef = .pointer (some ⟨hh, 0, none⟩)) (hg : W.heap[hh]? = some (.cells cs 31)) (hs : cs.size = 6) :
    (results fn tmps).run Tryd.prog W = .ok (.agg cs) W := by
  exact results_cell_row hfn tmps W hh 31 cs (0, 0) _ h2 hg Tryd.underlying31 rfl (by rw [hs]; kernel_rfl)
theorem heap_alloc_new' (w : World) (o : Obj) {n : Nat} (h : w.heap.size = n) : (w.alloc o).heap[n]? = some o := by subst h; exact heap_alloc_new w o
set_option maxHeartbeats 4000000 in
set_option maxRecDepth 100000 in
theorem of_calls (k : Int) (raw : ByteArray) (w : World) :
    Calls Tryd.prog 6 #[rI k raw] w (fun e w' => e = .returned (rG k raw) ∧ Below w.heap.size w w') := by
  have h1 := heap_alloc_new w (.cells #[.int .i64 k, .string raw, .string ⟨#[]⟩, .float .f64 0, .bool true] 24)
  have h2 : ((w.alloc (.cells #[.int .i64 k, .string raw, .string ⟨#[]⟩, .float .f64 0, .bool true] 24)).alloc (.cells #[.int .i64 0, .string ⟨#[]⟩, .string ⟨#[]⟩, .float .f64 0, .int .i64 0, .slice none 0 0] 31)).heap[w.heap.size]? = some (.cells #[.int .i64 k, .string raw, .string ⟨#[]⟩, .float .f64 0, .bool true] 24) := by
    rw [Below.heap_alloc _ _ _ (by rw [World.size_alloc]; omega)]; exact h1
  have r0 := blk_cell (j := 0) h2 rfl
  have r1 := blk_cell (j := 1) h2 rfl
  have r2 := blk_cell (j := 2) h2 rfl
  have r3 := blk_cell (j := 3) h2 rfl
  clear h1 h2
  have hsf : ∀ (a : Addr) (W : World), (store a (.float .f64 0)).run Tryd.prog W = stored Tryd.prog W a (.float .f64 0) .plain := fun a W => run_store _ W a _ _ rfl
  unfold rI rG
  go_enter Tryd.func6, Tryd.ntmps6
  go_wp2
  (try simp only [Exit.inBlock, Exit.then])
  refine bodyPost_ret (res31 rfl rfl (hh := w.heap.size + 1) (heap_alloc_new' _ _ (World.size_alloc _ _)) rfl) rfl ⟨rfl, (below_alloc1 _).alloc (by rw [World.size_alloc]; omega) _⟩
set_option maxHeartbeats 4000000 in
set_option maxRecDepth 100000 in
theorem exists_calls (k : Int) (hk : (k != 0) = true) (raw : ByteArray) (w : World) : Calls Tryd.prog 8 #[rG k raw] w (fun e w' => e = .returned (.bool true) ∧ Below w.heap.size w w') := by
  have h1 := heap_alloc_new w (.cells #[.int .i64 k, .string raw, .string ⟨#[]⟩, .float .f64 0, .int .i64 0, .slice none 0 0] 31)
  have r0 := blk_cell (j := 0) h1 rfl
  clear h1
  unfold rG
  go_enter Tryd.func8, Tryd.ntmps8
  go_wp2
  go_ret
  exact ⟨rfl, below_alloc1 _⟩
def tru : ByteArray := ⟨#[116, 114, 117, 101]⟩
def fls : ByteArray := ⟨#[102, 97, 108, 115, 101]⟩
def wrd (b : Bool) : ByteArray := if b then tru else fls
def kdn (b : Bool) : Int := if b then 4 else 1
def opn (ne : Bool) : ByteArray := if ne then ⟨#[33, 61]⟩ else ⟨#[61]⟩
def ansB (ne v r : Bool) : Bool := if ne then v != r else v == r
set_option maxHeartbeats 4000000 in
set_option maxRecDepth 100000 in
theorem query_calls (ne v r : Bool) (R : Nat) (w : World) (hR : R < w.heap.size) (h11 : w.cell? ⟨R, 11, none⟩ = some (.string (opn ne))) (h12 : w.cell? ⟨R, 12, none⟩ = some (.string (wrd r))) :
    Calls Tryd.prog 7 #[.pointer (some ⟨R, 0, none⟩), rG (kdn v) (wrd v)] w (fun e w' => e = .returned (.bool (ansB ne v r)) ∧ Below w.heap.size w w') := by
  have C := fun W => exists_calls (kdn v) (by cases v <;> rfl) (wrd v) W
  unfold rG at C
  obtain ⟨W1, hW1⟩ : ∃ W1, W1 = w.alloc (.cells #[.int .i64 (kdn v), .string (wrd v), .string ⟨#[]⟩, .float .f64 0, .int .i64 0, .slice none 0 0] 31) := ⟨_, rfl⟩
  have hb1 : Below w.heap.size w W1 := by rw [hW1]; exact below_alloc1 _
  have hblk : W1.heap[w.heap.size]? = some (.cells #[.int .i64 (kdn v), .string (wrd v), .string ⟨#[]⟩, .float .f64 0, .int .i64 0, .slice none 0 0] 31) := by rw [hW1]; exact heap_alloc_new _ _
  have hsz : W1.heap.size = w.heap.size + 1 := by rw [hW1, World.size_alloc]
  have HF : ∀ W, Below W1.heap.size W1 W → (W.cell? ⟨R, 11, none⟩ = some (.string (opn ne)) ∧ W.cell? ⟨R, 12, none⟩ = some (.string (wrd r))) ∧ (W.cell? ⟨w.heap.size, 0, none⟩ = some (.int .i64 (kdn v)) ∧ W.cell? ⟨w.heap.size, 1, none⟩ = some (.string (wrd v)) ∧ W.cell? ⟨w.heap.size, 2, none⟩ = some (.string ⟨#[]⟩) ∧ W.cell? ⟨w.heap.size, 3, none⟩ = some (.float .f64 0) ∧ W.cell? ⟨w.heap.size, 4, none⟩ = some (.int .i64 0) ∧ W.cell? ⟨w.heap.size, 5, none⟩ = some (.slice none 0 0)) ∧ Below w.heap.size w W := fun W hb => by
    have h1 : W.heap[w.heap.size]? = some _ := (hb.block _ (by omega)).trans hblk
    have h2 : Below w.heap.size w W := hb1.trans (hb.mono hb1.size)
    exact ⟨⟨(h2.cell (p := ⟨R, 11, none⟩) hR).trans h11, (h2.cell (p := ⟨R, 12, none⟩) hR).trans h12⟩, ⟨blk_cell h1 rfl, blk_cell h1 rfl, blk_cell h1 rfl, blk_cell h1 rfl, blk_cell h1 rfl, blk_cell h1 rfl⟩, h2⟩
  have HF := Aside0.mk HF
  obtain ⟨⟨f1, f2⟩, ⟨r0, r1, r2, r3, r4, r5⟩, _⟩ := HF.out W1 (Below.refl _ _)
  subst hW1
  have C := Aside0.mk C
  clear hb1 hblk hsz h11 h12
  unfold rG
  have hne : ((kdn v : Int) != 0) = true := by cases v <;> rfl
  unfold kdn wrd opn tru fls at *
  unfold ansB
  rcases v with _ | _ <;> rcases r with _ | _ <;> rcases ne with _ | _
  all_goals simp only [if_true, Bool.false_eq_true, if_false] at *
  all_goals
    go_enter Tryd.func7, Tryd.ntmps7
    go_wp2_with (go_at_call 8; refine (C.out _).mono ?_; rintro e w1 ⟨rfl, hb⟩; obtain ⟨⟨g1, g2⟩, ⟨s0, s1, s2, s3, s4, s5⟩, hb2⟩ := HF.out w1 hb)
    go_ret
    exact ⟨rfl, hb2⟩
end Go.Proofs.YtpadeljjepljcaaDoor.G
