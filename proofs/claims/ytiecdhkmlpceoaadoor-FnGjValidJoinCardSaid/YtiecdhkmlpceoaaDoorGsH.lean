/- Quoted strings: their bytes; rows of bytes of a call's own; gjson's appendHex16. -/
import Derived.Test.YtiecdhkmlpceoaaDoorGsG
import Derived.Test.YtiecdhkmlpceoaaDoorGvY
import Derived.Test.YtiecdhkmlpceoaaDoorGrD
import Derived.BigRegion
import Derived.Deep.RegionLaw
import Derived.OwnWalk
import Derived.Lib.AppendZeros
import Derived.Laws.BitsLemmas
import Derived.Lib.QuoteBits
namespace Go.Proofs.YtiecdhkmlpceoaaDoor.G
set_option linter.unusedVariables false
set_option linter.unusedSimpArgs false
open Go.RowKit Go.Proofs.YtiecdhkmlpceoaaDoorW.PrintWords

/-- What may stand between quotation marks. -/
def QB (b : List Int) : Prop := ∀ x, quo (b ++ x) = (quo x).map (b.length + ·)
theorem QB.nil : QB [] := fun x => by simp
theorem QB.app {a b : List Int} (ha : QB a) (hb : QB b) : QB (a ++ b) := fun x => by
  rw [List.append_assoc, ha, hb, Option.map_map, List.length_append]
  congr 1
  funext z
  simp only [Function.comp]
  omega
theorem QB.plain {c : Int} (h1 : c ≠ 34) (h2 : ¬ c < 32) (h3 : c ≠ 92) : QB [c] := fun x => by
  rw [List.singleton_append, quo_cons2, if_neg h1, if_neg h2, if_neg h3]
  congr 1
  funext z
  simp only [List.length_singleton]
  omega
theorem QB.esc {c : Int} (h : isEs c = true) : QB [92, c] := fun x => by
  show quo (92 :: c :: x) = _
  rw [quo_cons2, if_neg (by decide), if_neg (by decide), if_pos rfl, G.esc, if_pos h]
  simp only [List.drop_succ_cons, List.drop_zero]
  congr 1
  funext z
  simp only [List.length_cons, List.length_nil]
  omega
theorem QB.hex {a b c d : Int} (ha : isHx a = true) (hb : isHx b = true) (hc : isHx c = true) (hd : isHx d = true) : QB [92, 117, a, b, c, d] := fun x => by
  show quo (92 :: 117 :: a :: b :: c :: d :: x) = _
  rw [quo_cons2, if_neg (by decide), if_neg (by decide), if_pos rfl, G.esc, if_neg (by decide)]
  have h4 : hx4 (a :: b :: c :: d :: x) = true := (hx4_iff2 _).2 (fun j hj => by
    have : j = 0 ∨ j = 1 ∨ j = 2 ∨ j = 3 := by omega
    rcases this with rfl | rfl | rfl | rfl
    · exact ha
    · exact hb
    · exact hc
    · exact hd)
  rw [h4]
  simp only [List.drop_succ_cons, List.drop_zero, beq_self_eq_true, Bool.and_true, if_true]
  congr 1
  funext z
  simp only [List.length_cons, List.length_nil]
  omega
theorem QB.list : ∀ (l : List Int), (∀ c ∈ l, 128 ≤ c) → QB l
  | [], _ => QB.nil
  | c :: l, h => by
    have hc := h c (by simp)
    exact QB.app (a := [c]) (QB.plain (by omega) (by omega) (by omega)) (QB.list l (fun x hx => h x (by simp [hx])))
/-- The sixteen digits. -/
def hexd (j : Nat) : Int := if j < 10 then 48 + (j : Int) else 87 + (j : Int)
theorem hexd_ok {j : Nat} (h : j < 16) : isHx (hexd j) = true ∧ 0 ≤ hexd j ∧ hexd j < 256 := by
  unfold hexd isHx
  split
  · refine ⟨?_, by omega, by omega⟩; simp; omega
  · refine ⟨?_, by omega, by omega⟩; simp; omega
def HexT (w : World) : Prop := 0 < w.heap.size ∧ ∀ j, j < 16 → w.cell? ⟨0, j, none⟩ = some (.int .u8 (hexd j))
theorem HexT.below {w w' : World} (h : HexT w) (hb : Below w.heap.size w w') : HexT w' :=
  ⟨Nat.lt_of_lt_of_le h.1 hb.size, fun j hj => by rw [hb.cell (p := ⟨0, j, none⟩) h.1]; exact h.2 j hj⟩
/-! ### rows of bytes -/
def BRow (w : World) (B : Nat) (v : Value) (xs : List Int) : Prop := w.ownsRow B 5 1 v xs.length (nums .u8 xs)
theorem inf5 : (Tryd.prog.info? 5).map (fun i => (i.zero, i.size, i.bytes)) = some (some (.int .u8 0), 1, 1) := by kernel_rfl
theorem nums_one (xs : List Int) : ∀ u ∈ nums .u8 xs, u.oneCell' = true := fun u hu => by
  obtain ⟨x, _, rfl⟩ := List.mem_map.1 hu; rfl
theorem nums_len (xs : List Int) : (nums .u8 xs).length = xs.length := by simp [nums]
/-- append(dst, bytes..), the bytes just built. -/
theorem app_by {ops : Array Oper} {rest : List Oper} {o : Oper} {a : Act} {Q : Exit → Act → World → Prop} {W0 W : World} (hgd : o.guard = none) (sl x : Operand)
    (ho : o.op = .call { callee := .builtin .append, args := #[sl, x], argTypes := #[55, 55] })
    {B : Nat} {v : Value} {m cx : Nat} {xs : List Int} (cs : List Int) (cells : Array Value) (hcs : cells.toList = nums .u8 cs) (hm : m = cs.length) (h0 : 0 < cs.length) (HR : Aside0 (BRow W B v xs)) (HB : Aside0 (Below B W0 W)) (hB : Aside0 (B ≤ W.heap.size)) (hn : Aside0 (xs.length + cs.length ≤ 1099511627000))
    (hs : a.eval sl = v) (hx : a.eval x = .slice (some ⟨W.heap.size, 0, none⟩) m cx)
    (hh : ∀ v' w1, Aside0 (BRow w1 B v' (xs ++ cs)) → Aside0 (Below B W0 w1) → Aside0 (B ≤ w1.heap.size) → wpList Tryd.prog ops Q rest (a.put o.dst v') w1) :
    wpList Tryd.prog ops Q (o :: rest) a (W.alloc (.cells cells 5)) := by
  obtain ⟨i0, hi, hz0, hz1, hz2⟩ := parts_info inf5
  have hn' := hn.out
  have hB' := hB.out
  have hsa : (W.alloc (.cells cells 5)).heap.size = W.heap.size + 1 := by simp [World.size_alloc]
  have hcell : ∀ j u, (nums .u8 cs)[j]? = some u → (W.alloc (.cells cells 5)).cell? ((⟨W.heap.size, 0, none⟩ : Addr).add j) = some u := by
    have := new_cells W (nums .u8 cs) 5
    rw [← hcs] at this ⊢
    simpa using this
  refine wpList_append_own _ hgd sl x 55 ho B 5 i0 (.int .u8 0) 1 1 Tryd.underlying55 hi hz0 hz1 hz2 rfl (by decide) v xs.length (nums .u8 xs) hs (HR.out.alloc _) ⟨W.heap.size, 0, none⟩ m cx (nums .u8 cs) hx (by rw [nums_len, hm, Nat.mul_one]) hcell (nums_one _) (by unfold maxLen; omega) (by omega) (by omega) ?_
  intro v' w1 hown hgrow _
  have hb : Below B W0 w1 := (HB.out.alloc hB' _).grown hgrow (by omega) (own_base HR.out)
  refine hh v' w1 ⟨?_⟩ ⟨hb⟩ ⟨by have := hgrow.size; omega⟩
  unfold BRow
  rw [List.length_append, nums_append, ← hm]
  exact hown
set_option maxRecDepth 100000 in
/-- append(dst, text...). -/
theorem app_st {ops : Array Oper} {rest : List Oper} {o : Oper} {a : Act} {Q : Exit → Act → World → Prop} {W0 W : World} (hgd : o.guard = none) (sl x : Operand)
    (ho : o.op = .call { callee := .builtin .append, args := #[sl, x], argTypes := #[55, 9] })
    {B : Nat} {v : Value} {xs : List Int} (s : ByteArray) (HR : Aside0 (BRow W B v xs)) (HB : Aside0 (Below B W0 W)) (hB : Aside0 (B ≤ W.heap.size)) (hn : Aside0 (xs.length + s.size ≤ 1099511627000))
    (hs : a.eval sl = v) (hx : a.eval x = .string s)
    (hh : ∀ v' w1, Aside0 (BRow w1 B v' (xs ++ bytesOf s)) → Aside0 (Below B W0 w1) → Aside0 (B ≤ w1.heap.size) → wpList Tryd.prog ops Q rest (a.put o.dst v') w1) :
    wpList Tryd.prog ops Q (o :: rest) a W := by
  obtain ⟨i0, hi, hz0, hz1, hz2⟩ := parts_info inf5
  have hn' := hn.out
  refine wpList_plain hgd fun K hK => ?_
  obtain ⟨v1, w1, hr, h2, h3, h4⟩ := run_append_str_at (P := Tryd.prog) (w := W) B 55 9 o.type 5 i0 Tryd.underlying55 Tryd.underlying9 hi hz0 hz1 hz2 v xs.length (nums .u8 xs) HR.out s (by simp only [maxLen]; omega) (by omega) hB.out
  unfold Oper.wp execOp
  simp only [ho, resolve, invoke, builtin, Sem.run_bind, Sem.run_pure, Result.andThen_ok, List.map_toArray, List.map_cons, List.map_nil, hs, hx, hr]
  refine hK _ _ (hh v1 w1 ⟨?_⟩ ⟨HB.out.grown h3 hB.out (own_base HR.out)⟩ ⟨by have := h3.size; have := hB.out; omega⟩)
  unfold BRow
  have hc : nums .u8 (xs ++ bytesOf s) = nums .u8 xs ++ Lib.strCells s := by
    rw [nums_append]
    congr 1
    simp [nums, bytesOf, Lib.strCells]
  rw [List.length_append, bytesOf_length, hc]
  exact h2
theorem and15 (x : Int) (k : IntKind) (hk : k = .u16 ∨ k = .i32) (h0 : 0 ≤ x) (h1 : x < 65536) : ∃ a : Nat, bits BinOp.and k x 15 = a ∧ a < 16 := by
  obtain ⟨n, rfl⟩ := Int.eq_ofNat_of_zero_le h0
  refine ⟨n % 16, ?_, Nat.mod_lt _ (by decide)⟩
  have hn : n < 65536 := by omega
  rcases hk with rfl | rfl
  · have := bits_mask .u16 16 (by decide) wraps_u16 4 (by decide) (n : Int) (by omega) (by simpa using h1)
    simpa using this
  · exact Lib.and15_i32 n (by omega)
theorem hex_bytes {a b c d : Int} (ha : 0 ≤ a ∧ a < 256) (hb : 0 ≤ b ∧ b < 256) (hc : 0 ≤ c ∧ c < 256) (hd : 0 ≤ d ∧ d < 256) : Bytes [a, b, c, d] := fun x hx => by
  simp at hx
  rcases hx with rfl | rfl | rfl | rfl <;> assumption
def HexA (xs : List Int) (W0 : World) (B : Nat) (e : Ending) (w' : World) : Prop :=
  ∃ (v : Value) (a b c d : Int), e = .returned v ∧ BRow w' B v (xs ++ [a, b, c, d]) ∧ Below B W0 w' ∧ isHx a = true ∧ isHx b = true ∧ isHx c = true ∧ isHx d = true ∧ Bytes [a, b, c, d]
set_option maxRecDepth 100000 in
set_option maxHeartbeats 4000000 in
theorem hex16_calls (v : Value) (xs : List Int) (B x : Nat) (W0 w : World) (hx : x < 65536) (hT : HexT w) (HR : BRow w B v xs) (HB : Below B W0 w) (hB : B ≤ w.heap.size) (hn : xs.length ≤ 1099511626000) :
    Calls Tryd.prog 53 #[v, .int .u16 x] w (HexA xs W0 B) := by
  obtain ⟨a, e0, ha⟩ := and15 ((x : Int) / 4096) .u16 (.inl rfl) (by omega) (by omega)
  obtain ⟨b, e1, hb⟩ := and15 ((x : Int) / 256) .u16 (.inl rfl) (by omega) (by omega)
  obtain ⟨c, e2, hc⟩ := and15 ((x : Int) / 16) .u16 (.inl rfl) (by omega) (by omega)
  obtain ⟨d, e3, hd⟩ := and15 (x : Int) .u16 (.inl rfl) (by omega) (by omega)
  obtain ⟨y0, hy0⟩ : ∃ y, y = hexd a := ⟨_, rfl⟩
  obtain ⟨y1, hy1⟩ : ∃ y, y = hexd b := ⟨_, rfl⟩
  obtain ⟨y2, hy2⟩ : ∃ y, y = hexd c := ⟨_, rfl⟩
  obtain ⟨y3, hy3⟩ : ∃ y, y = hexd d := ⟨_, rfl⟩
  have c0 : w.cell? ⟨0, a, none⟩ = some (.int .u8 y0) := by rw [hy0]; exact hT.2 a ha
  have c1 : w.cell? ⟨0, b, none⟩ = some (.int .u8 y1) := by rw [hy1]; exact hT.2 b hb
  have c2 : w.cell? ⟨0, c, none⟩ = some (.int .u8 y2) := by rw [hy2]; exact hT.2 c hc
  have c3 : w.cell? ⟨0, d, none⟩ = some (.int .u8 y3) := by rw [hy3]; exact hT.2 d hd
  have o0 := hexd_ok ha
  have o1 := hexd_ok hb
  have o2 := hexd_ok hc
  have o3 := hexd_ok hd
  rw [← hy0] at o0
  rw [← hy1] at o1
  rw [← hy2] at o2
  rw [← hy3] at o3
  have HO := Aside0.mk (And.intro o0 (And.intro o1 (And.intro o2 o3)))
  have HR := Aside0.mk HR
  have HB := Aside0.mk HB
  have hB := Aside0.mk hB
  have hn := Aside0.mk hn
  clear hT hy0 hy1 hy2 hy3 o0 o1 o2 o3
  obtain ⟨i0, hi, hz0, hz1, hz2⟩ := parts_info inf5
  have ha' : (a : Int) < 16 := by omega
  have hb' : (b : Int) < 16 := by omega
  have hc' : (c : Int) < 16 := by omega
  have hd' : (d : Int) < 16 := by omega
  have HI := Aside0.mk (And.intro hi (And.intro hz0 (And.intro hz1 hz2)))
  clear hi hz0 hz1 hz2
  go_enter Tryd.func53, Tryd.ntmps53
  go_upto_region 1 with fail
  go_region_law (first | (refine step_append_lies _ rfl _ _ 55 rfl B 5 i0 (.int .u8 0) 1 1 Tryd.underlying55 HI.out.1 HI.out.2.1 HI.out.2.2.1 HI.out.2.2.2 rfl (by decide) v xs.length (nums .u8 xs) rfl (World.ownsRow.alloc (w := w) HR.out _) ⟨w.heap.size, 0, none⟩ 4 4 (nums .u8 [y0, y1, y2, y3]) rfl rfl (new_cells w (nums .u8 [y0, y1, y2, y3]) 5) (nums_one _) (by decide) (by have := hn.out; unfold maxLen; omega) (by have := hn.out; omega) (by have := hB.out; simp; omega) _ rfl ?_; intro g cap w1 hown hgrow hat hlt))
  all_goals go_wp2_with fail
  all_goals
    refine bodyPost_ret (results_tmp rfl _ _ _) rfl ?_
    refine ⟨.slice (some ⟨g, 0, none⟩) (xs.length + 4) cap, y0, y1, y2, y3, rfl, ?_, ?_, HO.out.1.1, HO.out.2.1.1, HO.out.2.2.1.1, HO.out.2.2.2.1, hex_bytes HO.out.1.2 HO.out.2.1.2 HO.out.2.2.1.2 HO.out.2.2.2.2⟩
    · unfold BRow
      rw [List.length_append, nums_append]
      exact hown
    · exact (((HB.out.alloc hB.out _).drew).grown hgrow (by have := hB.out; simp; omega) (own_base HR.out))
end Go.Proofs.YtiecdhkmlpceoaaDoor.G
