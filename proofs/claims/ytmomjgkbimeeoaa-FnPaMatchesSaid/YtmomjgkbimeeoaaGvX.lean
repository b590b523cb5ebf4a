/- A slice of bytes of the call's own, whatever mark its block bears (a conversion's too), and what append of a text makes of it. -/
import Derived.Test.YtmomjgkbimeeoaaWWords
import Derived.Laws.AppendOwn
import Derived.Lib.AppendStr
import Derived.Lib.ConvBytes
import Derived.Lib.SlBuf
import Derived.Laws.IdiomCopy
import Derived.Laws.BytesArg
import Derived.Deep.MidRow
import Derived.Below
namespace Go.Proofs.Ytmomjgkbimeeoaa.G
set_option linter.unusedVariables false
set_option linter.unusedSimpArgs false
open Go.RowKit Go.Proofs.YtmomjgkbimeeoaaW.PrintWords

/-- The slice's value, its bytes xs; its block is not below B. -/
def Buf (w : World) (B : Nat) (v : Value) (xs : List Int) : Prop :=
  ∃ g cap, v = .slice (some ⟨g, 0, none⟩) xs.length cap ∧ B ≤ g ∧ g < w.heap.size ∧ xs.length ≤ cap ∧ (∀ (j : Nat) (u : Int), xs[j]? = some u → w.cell? ⟨g, j, none⟩ = some (.int .u8 u)) ∧
    (∀ j : Nat, j < cap → (w.cell? ⟨g, j, none⟩).isSome = true ∧ w.frozen? ⟨g, j, none⟩ = false)
section
variable {P : Program}
theorem Buf.below {w w1 : World} {B : Nat} {v : Value} {xs : List Int} (h : Buf w B v xs) (hb : Below w.heap.size w w1) : Buf w1 B v xs := by
  obtain ⟨g, cap, e, h1, h2, h3, h4, h5⟩ := h
  refine ⟨g, cap, e, h1, Nat.lt_of_lt_of_le h2 hb.size, h3, fun j u hj => ?_, fun j hj => ?_⟩
  · rw [hb.cell (p := ⟨g, j, none⟩) h2]; exact h4 j u hj
  · rw [hb.cell (p := ⟨g, j, none⟩) h2, hb.frozen (p := ⟨g, j, none⟩) h2]; exact h5 j hj
theorem cells_bytes (s : ByteArray) : Lib.strCells s = (bytesOf s).map (Value.int .u8) := by
  simp [Lib.strCells, bytesOf]
theorem Buf.of_block {w : World} {B g cap : Nat} {cur : Array Value} {e : TypeId} {m : Nat × Nat} {xs : List Int} (hg : w.heap[g]? = some (.cells cur e m)) (hB : B ≤ g) (hc : cur.size = cap) (hm : m = (0, 0) ∨ cap ≤ m.1) (hl : xs.length ≤ cap)
    (ht : cur.toList.take xs.length = xs.map (Value.int .u8)) : Buf w B (.slice (some ⟨g, 0, none⟩) xs.length cap) xs := by
  have hlt : g < w.heap.size := by
    rcases Nat.lt_or_ge g w.heap.size with h | h
    · exact h
    · simp [Array.getElem?_eq_none h] at hg
  have hcell : ∀ j, w.cell? ⟨g, j, none⟩ = cur[j]? := fun j => by simp [World.cell?, hg]
  refine ⟨g, cap, rfl, hB, hlt, hl, fun j u hj => ?_, fun j hj => ⟨?_, ?_⟩⟩
  · rw [hcell]
    have hjl : j < xs.length := (List.getElem?_eq_some_iff.1 hj).1
    have h2 : (cur.toList.take xs.length)[j]? = some (.int .u8 u) := by rw [ht]; simp [hj]
    rw [List.getElem?_take_of_lt hjl] at h2
    simpa using h2
  · rw [hcell]
    simp [Array.getElem?_eq_getElem (show j < cur.size by omega)]
  · simp only [World.frozen?, hg]
    rcases hm with rfl | hm
    · simp
    · simp; omega
theorem Buf.conv (W : World) (e : TypeId) (s : ByteArray) (B : Nat) (hB : B ≤ W.heap.size) : Buf (Lib.bytesWorld W e s) B (.slice (some ⟨W.heap.size, 0, none⟩) s.size (grownCap W s.size 0 e)) (bytesOf s) := by
  have hge : s.size ≤ grownCap W s.size 0 e := Nat.le_trans (by omega) (grownCap_ge W s.size 0 e)
  have hsz : (Lib.bytesCells W e s).size = grownCap W s.size 0 e := by
    simp [Lib.bytesCells]
    omega
  have h := Buf.of_block (w := Lib.bytesWorld W e s) (B := B) (cap := grownCap W s.size 0 e) (xs := bytesOf s) (Lib.bytesWorld_at_new W e s) hB hsz (.inr (by simp [hsz])) (by rw [bytesOf_length]; exact hge) (by
    rw [bytesOf_length]
    have : s.size = ((s.data.map fun b => Value.int .u8 b.toNat).toList).length := by simp
    simp only [Lib.bytesCells, Array.toList_append]
    rw [List.take_append_of_le_length (by simp), List.take_of_length_le (by simp)]
    simp [bytesOf])
  rw [bytesOf_length] at h
  exact h
theorem run_append_room_buf (w : World) (t u ty e : TypeId) (i : TypeInfo) (ht : P.underlying t = some (.slice e)) (hu : P.underlying u = some .string) (hi : P.info? e = some i) (hs1 : i.size = 1)
    (g sLen sCap : Nat) (s : ByteArray) (hroom : sLen + s.size ≤ sCap) (hc : ∀ j : Nat, j < sCap → (w.cell? ⟨g, j, none⟩).isSome = true ∧ w.frozen? ⟨g, j, none⟩ = false) :
    (Builtin.append_ #[t, u] ty #[.slice (some ⟨g, 0, none⟩) sLen sCap, .string s]).run P w = .ok (.slice (some ⟨g, 0, none⟩) (sLen + s.size) sCap) (w.setCells g sLen (Lib.strCells s)) := by
  have hf := Lib.run_firstCells_string (P := P) w 1 s
  have hst := run_storeCells_cells (P := P) g sLen (Lib.strCells s) 0 w (fun j hj => by rw [Lib.strCells_length] at hj; exact (hc (sLen + 0 + j) (by omega)).1) (fun j hj => by rw [Lib.strCells_length] at hj; exact (hc (sLen + 0 + j) (by omega)).2) (Lib.strCells_oneCell s)
  simp only [Nat.add_zero] at hst
  simp [Builtin.append_, run_underlying ht, run_underlying hu, sizeOf, typeInfo, hi, hs1, Builtin.lenOf, hroom, hf, Addr.add_lit, hst]
/-- append(b, s...), for the walk. -/
theorem wpList_append_buf {ops : Array Oper} {rest : List Oper} {o : Oper} {a : Act} {Q : Exit → Act → World → Prop} {w : World} (hgd : o.guard = none) (sl x : Operand) (t u e : TypeId)
    (ho : o.op = .call { callee := .builtin .append, args := #[sl, x], argTypes := #[t, u] })
    (ht : P.underlying t = some (.slice e)) (hu : P.underlying u = some .string) (hinfo : (P.info? e).map (fun i => (i.zero, i.size, i.bytes)) = some (some (.int .u8 0), 1, 1))
    (B : Nat) (v : Value) (xs : List Int) (hs : a.eval sl = v) (hown : Buf w B v xs) (s : ByteArray) (hx : a.eval x = .string s) (hl : xs.length + s.size ≤ 140737488355328) (hB : B ≤ w.heap.size)
    (h : ∀ v' w', Buf w' B v' (xs ++ bytesOf s) → Below B w w' → wpList P ops Q rest (a.put o.dst v') w') : wpList P ops Q (o :: rest) a w := by
  obtain ⟨i, hi, hzz⟩ := Option.map_eq_some_iff.1 hinfo
  simp only [Prod.mk.injEq] at hzz
  obtain ⟨hz, hsize, hby⟩ := hzz
  obtain ⟨g, cap, rfl, hBg, hlt, hle, hcell, hroomc⟩ := hown
  have hlen : (xs ++ bytesOf s).length = xs.length + s.size := by rw [List.length_append, bytesOf_length]
  refine wpList_plain hgd fun K hK => ?_
  by_cases hroom : xs.length + s.size ≤ cap
  · have hr := run_append_room_buf (P := P) w t u o.type e i ht hu hi hsize g xs.length cap s hroom hroomc
    unfold Oper.wp execOp
    simp only [ho, resolve, invoke, builtin, Sem.run_bind, Sem.run_pure, Result.andThen_ok, List.map_toArray, List.map_cons, List.map_nil, hs, hx, hr]
    refine hK _ _ (h _ _ ?_ (Lib.below_setCells g hBg _ _ (Below.refl _ _)))
    have hb := Lib.below_setCells (B := 0) g (Nat.zero_le _) (Lib.strCells s) xs.length (Below.refl 0 w)
    refine ⟨g, cap, by rw [hlen], hBg, Nat.lt_of_lt_of_le hlt hb.size, by rw [hlen]; exact hroom, fun j q hj => ?_, fun j hj => ⟨World.isSome_setCells g _ _ _ _ (hroomc j hj).1, ?_⟩⟩
    · rcases Nat.lt_or_ge j xs.length with hjl | hjl
      · rw [World.cell?_setCells_out g _ _ _ _ (fun _ _ => .inl hjl)]
        rw [List.getElem?_append_left hjl] at hj
        exact hcell j q hj
      · rw [List.getElem?_append_right hjl] at hj
        have hjs : j - xs.length < (bytesOf s).length := (List.getElem?_eq_some_iff.1 hj).1
        have hjc : j - xs.length < (Lib.strCells s).length := by rw [Lib.strCells_length]; rw [bytesOf_length] at hjs; exact hjs
        have := World.cell?_setCells_in g (Lib.strCells s) xs.length w (fun k hk => (hroomc (xs.length + k) (by rw [Lib.strCells_length] at hk; omega)).1) (j - xs.length) hjc
        rw [show xs.length + (j - xs.length) = j by omega] at this
        rw [this]
        have h2 : (Lib.strCells s)[j - xs.length]? = some (.int .u8 q) := by rw [cells_bytes]; simp [hj]
        rw [List.getElem?_eq_getElem hjc] at h2
        exact h2
    · rw [World.frozen?_setCells]; exact (hroomc j hj).2
  · have holds : ∀ (j : Nat) (u : Value), (xs.map (Value.int .u8))[j]? = some u → w.cell? ((⟨g, 0, none⟩ : Addr).add j) = some u := by
      intro j u hj
      have e1 : (⟨g, 0, none⟩ : Addr).add j = ⟨g, j, none⟩ := by unfold Addr.add; split <;> simp_all
      rw [e1]
      rw [List.getElem?_map] at hj
      obtain ⟨q, hq, rfl⟩ := Option.map_eq_some_iff.1 hj
      exact hcell j q hq
    have hr := Lib.run_append_grow_string (P := P) w t u o.type e i (.int .u8 0) ht hu hi hz ⟨g, 0, none⟩ xs.length cap (xs.map (Value.int .u8)) (by rw [hsize]; simp) holds s (by omega) (by omega) (by rw [hby]; exact growslice_fits (by omega) (by omega))
    unfold Oper.wp execOp
    simp only [ho, resolve, invoke, builtin, Sem.run_bind, Sem.run_pure, Result.andThen_ok, List.map_toArray, List.map_cons, List.map_nil, hs, hx, hr]
    have hge := grownCap_ge w (xs.length + s.size) cap e
    have hbuf := Buf.of_block (w := w.drew.alloc (.cells ((xs.map (Value.int .u8)).toArray ++ (Lib.strCells s).toArray ++ Builtin.zeroCells (Value.int .u8 0).cells (grownCap w (xs.length + s.size) cap e - (xs.length + s.size))) e)) (B := B) (cap := grownCap w (xs.length + s.size) cap e) (xs := xs ++ bytesOf s) (heap_alloc_new w.drew _) hB
      (by
        have hz1 : (Value.int IntKind.u8 0).cells.size = 1 := rfl
        simp only [Array.size_append, List.size_toArray, size_zeroCells, hz1, List.length_map, Lib.strCells_length]
        omega) (.inl rfl) (by rw [hlen]; exact hge) (by
        simp only [Array.toList_append, cells_bytes, ← List.map_append]
        rw [List.take_append_of_le_length (by simp), List.take_of_length_le (by simp)])
    rw [hlen] at hbuf
    exact hK _ _ (h _ _ hbuf ((Below.refl _ _).drew.alloc (by simpa using hB) _))
/-- string(b) of such a slice. -/
theorem Buf.string {w : World} {B : Nat} {v : Value} {xs : List Int} (h : Buf w B v xs) (src e dst : TypeId) (hs : P.underlying src = some (.slice e)) (he : P.underlying e = some (.int .u8)) (hd : P.underlying dst = some .string) :
    (convert src dst v).run P w = .ok (.string (strOfNums xs)) w := by
  obtain ⟨g, cap, rfl, _, _, _, hcell, _⟩ := h
  refine run_convert_bytes_arg w src e hs he g 0 xs.length cap xs rfl (fun i hi => ?_) dst hd
  rw [Nat.zero_add]
  have h2 : xs[i]? = some (xs.getD i 0) := by simp [List.getD_eq_getElem?_getD, List.getElem?_eq_getElem hi]
  exact hcell i _ h2
end
end Go.Proofs.Ytmomjgkbimeeoaa.G
