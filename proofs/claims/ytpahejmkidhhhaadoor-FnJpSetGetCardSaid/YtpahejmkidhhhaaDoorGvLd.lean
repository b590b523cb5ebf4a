/- What the laid variables say. -/
import Derived.Test.YtpahejmkidhhhaaDoorRows
import Derived.Test.YtpahejmkidhhhaaDoorGvJw
import Derived.ProofKit
import Derived.OpenShut
import Derived.LaidMore
import Derived.Stop.LaidErr
import Derived.Lib.LaidU8T
import Derived.Lay
import Derived.Deep.Strs
import Derived.Stop.Joined
namespace Go.Proofs.YtpahejmkidhhhaaDoor.G
set_option linter.unusedVariables false
set_option linter.unusedSimpArgs false
open Go.ChangeShapes Go.WideShapes Go.ChangeAt Go.RowKit Go.Proofs.YtpahejmkidhhhaaDoorW.PrintWords

theorem g0 : Tryd.prog.globalNamed "pub-tetrapla/pub/jsonparser.KeyPathNotFoundError" = some 0 := by kernel_rfl
theorem t0 : (Tryd.prog.globals[0]?).map (·.type) = some 57 := by kernel_rfl
theorem g1 : Tryd.prog.globalNamed "pub-tetrapla/pub/jsonparser.UnknownValueTypeError" = some 1 := by kernel_rfl
theorem t1 : (Tryd.prog.globals[1]?).map (·.type) = some 57 := by kernel_rfl
theorem g2 : Tryd.prog.globalNamed "pub-tetrapla/pub/jsonparser.MalformedJsonError" = some 2 := by kernel_rfl
theorem t2 : (Tryd.prog.globals[2]?).map (·.type) = some 57 := by kernel_rfl
theorem g3 : Tryd.prog.globalNamed "pub-tetrapla/pub/jsonparser.MalformedStringError" = some 3 := by kernel_rfl
theorem t3 : (Tryd.prog.globals[3]?).map (·.type) = some 57 := by kernel_rfl
theorem g4 : Tryd.prog.globalNamed "pub-tetrapla/pub/jsonparser.MalformedArrayError" = some 4 := by kernel_rfl
theorem t4 : (Tryd.prog.globals[4]?).map (·.type) = some 57 := by kernel_rfl
theorem g5 : Tryd.prog.globalNamed "pub-tetrapla/pub/jsonparser.MalformedObjectError" = some 5 := by kernel_rfl
theorem t5 : (Tryd.prog.globals[5]?).map (·.type) = some 57 := by kernel_rfl
theorem g8 : Tryd.prog.globalNamed "pub-tetrapla/pub/jsonparser.MalformedStringEscapeError" = some 8 := by kernel_rfl
theorem t8 : (Tryd.prog.globals[8]?).map (·.type) = some 57 := by kernel_rfl
theorem g14 : Tryd.prog.globalNamed "strconv.ErrSyntax" = some 14 := by kernel_rfl
theorem t14 : (Tryd.prog.globals[14]?).map (·.type) = some 57 := by kernel_rfl
theorem g15 : Tryd.prog.globalNamed "strconv.ErrRange" = some 15 := by kernel_rfl
theorem t15 : (Tryd.prog.globals[15]?).map (·.type) = some 57 := by kernel_rfl
theorem g10 : Tryd.prog.globalNamed "pub-tetrapla/pub/jsonparser.DefaultConfig" = some 10 := by kernel_rfl
theorem t10 : (Tryd.prog.globals[10]?).map (·.type) = some 90 := by kernel_rfl
theorem g12 : Tryd.prog.globalNamed "pub-tetrapla/pub/jsonparser.backslashCharEscapeTable" = some 12 := by kernel_rfl
theorem t12 : (Tryd.prog.globals[12]?).map (·.type) = some 135 := by kernel_rfl
theorem star : "*" ++ "errors.errorString" = "*errors.errorString" := by decide
theorem row158 (u : TypeId) (h : Tryd.prog.typeName? 3 u = some "*errors.errorString") : u = 158 :=
  typeName_ptr_named (nm := "errors.errorString") (by rw [star]; kernel_rfl) (by kernel_rfl) (by decide) u (by rw [star]; exact h)
theorem cells160 : Tryd.prog.cellsOf 160 = 1 := by kernel_rfl
theorem cells9 : Tryd.prog.cellsOf 9 = 1 := by kernel_rfl
theorem cells90 : Tryd.prog.cellsOf 90 = 3 := by kernel_rfl
theorem cells4 : Tryd.prog.cellsOf 4 = 1 := by kernel_rfl
theorem cells3 : Tryd.prog.cellsOf 3 = 1 := by kernel_rfl
theorem cfg_of {W : World} {r : List (String × DataW Unit)} (h : laidMet Tryd.prog (("pub-tetrapla/pub/jsonparser.DefaultConfig", Rows.laid_pub_tetrapla_pub_jsonparser_DefaultConfig) :: r) W) : CfgAt W 10 := by
  obtain ⟨ps, ⟨g0, t0, cs0, f0, p0, q0, hg0, ht0, hv0, hd0, _, e0⟩, _, _⟩ := h
  obtain rfl := Option.some.inj (g10.symm.trans hg0)
  obtain rfl := Option.some.inj (t10.symm.trans ht0)
  obtain ⟨l0⟩ := cs0
  obtain ⟨y0, y1, y2, n, hx, hl, h0, h1, h2⟩ := Go.Deep.trod_struct3 Tryd.underlying90 hd0
  rw [cells90] at hl
  obtain ⟨v0, v1, v2, rfl⟩ : ∃ v0 v1 v2, l0 = [v0, v1, v2] := by
    have hl' : l0.length = 3 := hl
    clear h0 h1 h2 hv0 hd0 hl
    match l0, hl' with
    | [v0, v1, v2], _ => exact ⟨v0, v1, v2, rfl⟩
  have c := fun i => World.var?_cell g10 hv0 i
  simp only [cells4, cells3] at h0 h1 h2
  obtain ⟨b0, e1, e2⟩ := DataW.trod_bool Tryd.underlying4 h0
  obtain ⟨b1, e3, e4⟩ := DataW.trod_bool Tryd.underlying4 h1
  obtain ⟨b2, e5, e6, _⟩ := DataW.trod_int Tryd.underlying3 h2
  clear h0 h1 h2 hd0 hv0
  simp at e1 e3 e5
  subst e1 e3 e5
  subst e2 e4 e6
  simp [Rows.laid_pub_tetrapla_pub_jsonparser_DefaultConfig] at hx
  obtain ⟨⟨rfl, rfl, rfl⟩, _⟩ := hx
  have c0 : W.cell? ⟨10, 0, none⟩ = some (.bool false) := by rw [c 0]; rfl
  exact ⟨World.block_lt_of_cell? W _ c0, c0, by rw [c 1]; rfl, by rw [c 2]; rfl⟩
set_option maxRecDepth 100000 in
theorem err_of {n : String} {text : List UInt8} {r : List (String × DataW Unit)} {W : World} {g : Nat} (h : laidMet Tryd.prog ((n, .iface "*errors.errorString" (.ptr (.agg [.lit (.string text)]))) :: r) W)
    (hg : Tryd.prog.globalNamed n = some g) (ht : (Tryd.prog.globals[g]?).map (·.type) = some 57) :
    ∃ (a : Addr) (c : Array Value) (t : TypeId), W.cell? ⟨g, 0, none⟩ = some (.iface 158 (.pointer (some a))) ∧ W.heap[a.block]? = some (.cells c t (0, 0)) := by
  obtain ⟨ps, ⟨g0, t0, cs0, f0, p0, q0, hg0, ht0, hv0, hd0, _, e0⟩, _, hrows⟩ := h
  obtain rfl := Option.some.inj (hg.symm.trans hg0)
  obtain rfl := Option.some.inj (ht.symm.trans ht0)
  subst e0
  obtain ⟨l0⟩ := cs0
  have ok0 : ∀ u v, l0 = [.iface u v] → Value.okWide Tryd.prog W .any 0 u v := fun u v e => by
    subst e
    exact (hrows g 0 (by simp [MemPlace.row])).2 u v (by simpa using World.var?_cell hg0 hv0 0)
  obtain ⟨a0, s0, rfl, hc0, hs0, hz0, rfl⟩ := errorString_of_trod Tryd.underlying57 row158 Tryd.underlying158 Tryd.underlying160 rfl rfl Tryd.underlying9 cells160 cells9 hd0 ok0
  obtain ⟨c, t, hb⟩ := (hrows a0.block a0.off (by simp [MemPlace.row])).1
  exact ⟨a0, c, t, by have := World.var?_cell hg0 hv0 0; simpa using this, hb⟩
theorem cells5 : Tryd.prog.cellsOf 5 = 1 := by kernel_rfl
set_option maxRecDepth 100000 in
theorem tab_at {H : Type} (i : Nat) (h : isEs (i : Int) = true) : i < 117 ∧ (match (Rows.laid_pub_tetrapla_pub_jsonparser_backslashCharEscapeTable : DataW H) with | .agg ds => ds[i]? | _ => none) = some (.lit (.int .u8 (shortc (i : Int)))) := by
  have : i = 34 ∨ i = 92 ∨ i = 47 ∨ i = 98 ∨ i = 102 ∨ i = 110 ∨ i = 114 ∨ i = 116 := by
    unfold isEs at h
    simp only [Bool.or_eq_true, beq_iff_eq] at h
    omega
  rcases this with rfl | rfl | rfl | rfl | rfl | rfl | rfl | rfl <;> exact ⟨by decide, rfl⟩
set_option maxRecDepth 100000 in
theorem tab_of {W : World} {r : List (String × DataW Unit)} (h : laidMet Tryd.prog (("pub-tetrapla/pub/jsonparser.backslashCharEscapeTable", Rows.laid_pub_tetrapla_pub_jsonparser_backslashCharEscapeTable) :: r) W) : TabT W := by
  obtain ⟨g, t, cs, fuel, p, h1, h2, h3, h4⟩ := Go.Lib.laidMet.reads h (n := "pub-tetrapla/pub/jsonparser.backslashCharEscapeTable") (d := Rows.laid_pub_tetrapla_pub_jsonparser_backslashCharEscapeTable) (List.mem_cons_self ..)
  obtain rfl := Option.some.inj (g12.symm.trans h1)
  obtain rfl := Option.some.inj (t12.symm.trans h2)
  have cell := fun i => World.var?_cell g12 h3 i
  have all : ∀ j : Nat, isEs (j : Int) = true → W.cell? ⟨12, j, none⟩ = some (.int .u8 (shortc (j : Int))) := by
    intro j hes
    obtain ⟨hj, hx⟩ := tab_at (H := Unit) j hes
    unfold Rows.laid_pub_tetrapla_pub_jsonparser_backslashCharEscapeTable at h4
    obtain ⟨fu, d, q, hd, ht⟩ := Go.Lib.array_elem Tryd.underlying135 h4 j hj
    unfold Rows.laid_pub_tetrapla_pub_jsonparser_backslashCharEscapeTable at hx
    simp only [] at hx
    rw [hx] at hd
    cases hd
    obtain ⟨z, hz, e, _⟩ := DataW.trod_int Tryd.underlying5 ht
    have e3 : shortc (j : Int) = z := by simp at e; exact e.1
    rw [cells5, Nat.mul_one] at hz
    have h0 : (cs.toList.drop j)[0]? = some (.int .u8 z) := by
      have := congrArg (·[0]?) hz
      simpa [List.getElem?_take] using this
    rw [cell j, ← Array.getElem?_toList]
    rw [List.getElem?_drop, Nat.add_zero] at h0
    rw [h0, ← e3]
  exact ⟨World.block_lt_of_cell? W _ (all 34 (by decide)), all⟩
theorem laid_all {W : World} {a0 a1 a2 a3 a4 a5 a8 a14 a15 : Addr} {x0 x1 x2 x3 x4 x5 : Array Value} {t0 t1 t2 t3 t4 t5 : TypeId} (hc : CfgAt W 10) (ht : TabT W)
    (hv0 : W.cell? ⟨0, 0, none⟩ = some (.iface 158 (.pointer (some a0)))) (hb0 : W.heap[a0.block]? = some (.cells x0 t0 (0, 0)))
    (hv1 : W.cell? ⟨1, 0, none⟩ = some (.iface 158 (.pointer (some a1)))) (hb1 : W.heap[a1.block]? = some (.cells x1 t1 (0, 0)))
    (hv2 : W.cell? ⟨2, 0, none⟩ = some (.iface 158 (.pointer (some a2)))) (hb2 : W.heap[a2.block]? = some (.cells x2 t2 (0, 0)))
    (hv3 : W.cell? ⟨3, 0, none⟩ = some (.iface 158 (.pointer (some a3)))) (hb3 : W.heap[a3.block]? = some (.cells x3 t3 (0, 0)))
    (hv4 : W.cell? ⟨4, 0, none⟩ = some (.iface 158 (.pointer (some a4)))) (hb4 : W.heap[a4.block]? = some (.cells x4 t4 (0, 0)))
    (hv5 : W.cell? ⟨5, 0, none⟩ = some (.iface 158 (.pointer (some a5)))) (hb5 : W.heap[a5.block]? = some (.cells x5 t5 (0, 0)))
    (hv8 : W.cell? ⟨8, 0, none⟩ = some (.iface 158 (.pointer (some a8)))) (hv14 : W.cell? ⟨14, 0, none⟩ = some (.iface 158 (.pointer (some a14)))) (hv15 : W.cell? ⟨15, 0, none⟩ = some (.iface 158 (.pointer (some a15)))) :
    ∃ E, GL E W ∧ SW W E ∧ ErP W E := by
  have hE : ErrT W (fun k => .iface 158 (.pointer (some (match k with | 0 => a0 | 1 => a1 | 2 => a2 | 3 => a3 | 4 => a4 | _ => a5)))) := by
    refine ⟨hc.1, fun k hk => ?_, fun k hk => ⟨_, rfl⟩⟩
    have : k = 0 ∨ k = 1 ∨ k = 2 ∨ k = 3 ∨ k = 4 ∨ k = 5 := by omega
    rcases this with rfl | rfl | rfl | rfl | rfl | rfl <;> assumption
  refine ⟨_, ⟨hE, hc⟩, ⟨hE, ht, World.block_lt_of_cell? W _ hv15, ⟨_, hv8⟩, ⟨_, hv14, .inr ⟨_, _, rfl⟩⟩, ⟨_, hv15, .inr ⟨_, _, rfl⟩⟩⟩, ⟨fun k hk => ?_⟩⟩
  have : k = 0 ∨ k = 1 ∨ k = 2 ∨ k = 3 ∨ k = 4 ∨ k = 5 := by omega
  rcases this with rfl | rfl | rfl | rfl | rfl | rfl
  · exact ⟨_, _, _, rfl, hb0⟩
  · exact ⟨_, _, _, rfl, hb1⟩
  · exact ⟨_, _, _, rfl, hb2⟩
  · exact ⟨_, _, _, rfl, hb3⟩
  · exact ⟨_, _, _, rfl, hb4⟩
  · exact ⟨_, _, _, rfl, hb5⟩
end Go.Proofs.YtpahejmkidhhhaaDoor.G
