/- json-patch: a merge whose patch holds but nulls at names that the document has not. -/
import Derived.Test.YtmomjgkbimeeoaaDoorGvPv
import Derived.Maps.RangeWalk
import Derived.Sort.MapsRangeIn
namespace Go.Proofs.YtmomjgkbimeeoaaDoor.G
set_option linter.unusedVariables false
set_option linter.unusedSimpArgs false
open Go.RowKit Go.Proofs.YtmomjgkbimeeoaaDoorW.PrintWords

theorem intoDoc_calls (b db : Nat) (r : Value) (opts : Value) (w : World) (hb : w.heap[b]? = some (.cells #[r, .pointer (some ⟨db, 0, none⟩), .pointer none, .int .i64 1] 89)) :
    Calls Tryd.prog 56 #[.pointer (some ⟨b, 0, none⟩), opts] w fun e w' => e = .returned (.tuple #[.pointer (some ⟨db, 0, none⟩), .nilIface]) ∧ w' = w := by
  have c1 : w.cell? ⟨b, 1, none⟩ = some (.pointer (some ⟨db, 0, none⟩)) := blk_cell hb rfl
  have c3 : w.cell? ⟨b, 3, none⟩ = some (.int .i64 1) := blk_cell hb rfl
  clear hb
  go_enter Tryd.func56, Tryd.ntmps56
  go_wp2_with fail
  go_ret2
  exact ⟨rfl, rfl⟩
/-- Something is returned, nothing of before has turned. -/
def AnyA (w : World) (e : Ending) (w' : World) : Prop := (∃ v, e = .returned v) ∧ Below w.heap.size w w'
set_option maxHeartbeats 4000000 in
set_option maxRecDepth 100000 in
theorem remove_absent {db m n O : Nat} {sf opts : Value} {kA : Option Addr} {k kc : Nat} {f : ByteArray → Option Value} {T : TypeId} {u : Value} (x : ByteArray) (w : World) (hd : w.heap[db]? = some (.cells #[sf, .slice kA k kc, .map (some m), opts] 112)) (hm : Mp w m n f) (hx : x.size ≤ maxLen) (hf : f x = none)
    (ho : w.heap[O]? = some (.cells #[.bool true, .int .i64 0, .bool false, .bool false, .bool true] 59)) (hg : w.cell? ⟨2, 0, none⟩ = some (.iface T u)) :
    Calls Tryd.prog 73 #[.pointer (some ⟨db, 0, none⟩), .string x, .pointer (some ⟨O, 0, none⟩)] w (AnyA w) := by
  have c2 : w.cell? ⟨db, 2, none⟩ = some (.map (some m)) := blk_cell hd rfl
  have o2 : w.cell? ⟨O, 2, none⟩ = some (.bool false) := blk_cell ho rfl
  have hl := hm.look_ok x hx
  rw [hf] at hl
  simp only [Option.getD_none, Option.isSome_none] at hl
  have hq := run_eql_map_nil (P := Tryd.prog) w 110 9 68 (some m) Tryd.underlying110
  clear hd ho hm hf
  go_enter Tryd.func73, Tryd.ntmps73
  go_wp2_with fail
  go_ret
  exact ⟨⟨_, rfl⟩, below_alloc1 _⟩
theorem ranges_kept {w w' : World} {b r n cnt : Nat} {D : DataW Value} {left : Lit → Bool} (h : w.ranges Tryd.prog 9 heldR b r n D left cnt) (hb : w'.heap[b]? = w.heap[b]?) (hr : w'.heap[r]? = w.heap[r]?) : w'.ranges Tryd.prog 9 heldR b r n D left cnt := by
  obtain ⟨es, clock, since, seen, c0, h1, h2, h3, h4, h5, h6⟩ := h
  exact ⟨es, clock, since, seen, c0, hb.trans h1, h2, h3, h4, hr.trans h5, h6⟩
theorem key_inv {x : ByteArray} {kl : Lit} (h : keyOf Tryd.prog 9 (.string x) = some kl) : x.size ≤ maxLen ∧ kl = kLit x := by
  rw [Go.keyOf_string Tryd.underlying9] at h
  simp only [mapKey, Tryd.underlying9] at h
  split at h
  · rename_i hs
    cases h
    exact ⟨hs, rfl⟩
  · cases h
set_option maxHeartbeats 4000000 in
set_option maxRecDepth 100000 in
theorem mergeDocs_calls {db db2 m m2 n n2 O : Nat} {sf opts sf2 opts2 : Value} {kA kA2 : Option Addr} {k kc k2 kc2 : Nat} {f f2 : ByteArray → Option Value} {T : TypeId} {u : Value} (w : World)
    (hd : w.heap[db]? = some (.cells #[sf, .slice kA k kc, .map (some m), opts] 112)) (hm : Mp w m n f)
    (hd2 : w.heap[db2]? = some (.cells #[sf2, .slice kA2 k2 kc2, .map (some m2), opts2] 112)) (hm2 : Mp w m2 n2 f2)
    (hf : ∀ x v, x.size ≤ maxLen → f2 x = some v → v = .pointer none ∧ f x = none)
    (ho : w.heap[O]? = some (.cells #[.bool true, .int .i64 0, .bool false, .bool false, .bool true] 59)) (hg : w.cell? ⟨2, 0, none⟩ = some (.iface T u)) (hg2 : 2 < w.heap.size) :
    Calls Tryd.prog 58 #[.pointer (some ⟨db, 0, none⟩), .pointer (some ⟨db2, 0, none⟩), .bool false, .pointer (some ⟨O, 0, none⟩)] w (fun e w' => e = .returned (.tuple #[]) ∧ Below w.heap.size w w') := by
  have c2 : w.cell? ⟨db2, 2, none⟩ = some (.map (some m2)) := blk_cell hd2 rfl
  have hml2 := hm2.lt
  obtain ⟨D, hown, hD⟩ := hm2
  have HD := Aside0.mk hD
  have HF := Aside0.mk hf
  have HR := Aside0.mk (fun (W : World) (hW : Below w.heap.size w W) (x : ByteArray) (hx : x.size ≤ maxLen) (hfx : f x = none) =>
    remove_absent x W ((hW.block _ (Array.getElem?_eq_some_iff.1 hd).1).trans hd) (hm.kept (hW.block _ hm.lt)) hx hfx ((hW.block _ (Array.getElem?_eq_some_iff.1 ho).1).trans ho) ((hW.cell (p := ⟨2, 0, none⟩) hg2).trans hg))
  unfold AnyA at HR
  clear hD hf hd hd2 hm ho hg hg2
  go_enter Tryd.func58, Tryd.ntmps58
  go_wp2_with (first
    | (at_range; refine wpList_range_own _ rfl _ 110 rfl 9 68 law Tryd.underlying110 heldR m2 n2 D rfl hown ?_; intro w0 hrg0 hg0 hs0)
    | fail)
  have hb0 : Below w.heap.size w w0 := (Below.refl _ _).grown hg0 (Nat.le_refl _) (fun k h => by cases h)
  have H0 := Aside0.mk (And.intro hrg0 hb0)
  clear hrg0 hg0 hs0 hb0 c2
  go_frame
  go_loopw [8] (fun _ wr => ∃ (left : Lit → Bool) (cnt : Nat), Aside0 (wr.ranges Tryd.prog 9 heldR m2 w.heap.size n2 D left cnt ∧ (∀ kl, left kl = true → Maps.has D kl = true) ∧ Below w.heap.size w wr)) (fun _ wr => wr.rangeLeft m2 w.heap.size)
  case atStart => exact ⟨_, _, ⟨H0.out.1, fun kl h => h, H0.out.2⟩⟩
  case round =>
    obtain ⟨left, cnt, HL⟩ := hrel
    have hrg := HL.out.1
    go_wp2_with (first
      | (at_next; refine wpList_next_ranges _ rfl _ rfl 9 law heldR Value.string (fun v : Value => v) (fun key kl hk => Maps.keyOf_string_inv Tryd.underlying9 hk) (fun v y _ => ⟨v, rfl⟩) m2 w.heap.size n2 D _ _ rfl hrg ?_ ?_)
      | fail)
    · intro h0 hl0
      clear h0 hl0 hrg
      go_wp2_with fail
      go_end0
      exact ⟨rfl, HL.out.2.2⟩
    · intro x c kl yd yp w1 cnt1 hkey hlk hy hat hrg1 hlt hg1 hs1 hen
      obtain ⟨hx, rfl⟩ := key_inv hkey
      cases hy
      have hh := HL.out.2.1 _ hlk
      rw [(HD.out x hx).1] at hh
      cases hfx : f2 x with
      | none => rw [hfx] at hh; cases hh
      | some v =>
        have hv := (HD.out x hx).2 (.held c) v hfx
        rw [hat] at hv
        cases hv
        obtain ⟨rfl, hfn⟩ := HF.out x c hx hfx
        have hb1 : Below w.heap.size w w1 := HL.out.2.2.grown hg1 HL.out.2.2.size (fun k h => by cases h; exact Nat.le_refl _)
        have HN := Aside0.mk (And.intro hrg1 (And.intro hb1 (And.intro hlt hrg)))
        have HC := Aside0.mk (HR.out w1 hb1 x hx hfn)
        clear hb1 hrg1 hlt hrg hkey hlk hat hh hfx hfn hg1 hs1
        go_wp2_with (first | (go_at_call 73; refine HC.out.mono ?_; rintro e w2 ⟨⟨v, rfl⟩, hb2⟩) | fail)
        have hrg2 := ranges_kept HN.out.1 (hb2.block _ (by have := HN.out.2.1.size; omega)) (hb2.block _ HN.out.1.lt)
        go_roundw
        case rel => exact ⟨_, cnt1, ⟨hrg2, fun kl h => HL.out.2.1 kl (by simp only [Bool.and_eq_true] at h; exact h.1), below_step HN.out.2.1 hb2⟩⟩
        case measure => rw [hrg2.left_eq, HN.out.2.2.2.left_eq]; exact HN.out.2.2.1
end Go.Proofs.YtmomjgkbimeeoaaDoor.G
