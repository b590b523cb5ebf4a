/- The reference's characters of a text. -/
import Derived.Test.YtiecdhkmlpceoaaDoorGvH
import Derived.Test.YtiecdhkmlpceoaaDoorGvT
import Derived.Laws.AppendOwn
import Derived.OwnWalk
namespace Go.Proofs.YtiecdhkmlpceoaaDoor.G
set_option linter.unusedVariables false
set_option linter.unusedSimpArgs false
open Go.RowKit Go.Proofs.YtiecdhkmlpceoaaDoorW.PrintWords
open Go.Lib (decodeL decodeL_N decodeN)

theorem info3 : (Tryd.prog.info? 3).map (fun i => (i.zero, i.size, i.bytes)) = some (some (.int .i64 0), 1, 8) := by kernel_rfl
def chvals (cs : List (List UInt8)) : List Value := cs.map fun q => Value.int .i64 (chv q)
/-- A row of numbers: the characters. -/
def CRow (w : World) (B : Nat) (v : Value) (cs : List (List UInt8)) : Prop := w.ownsRow B 3 1 v cs.length (chvals cs)
def Chars (s : ByteArray) (w : World) (e : Ending) (w' : World) : Prop :=
  ∃ (v : Value) (ok : Bool) (cs : List (List UInt8)), e = .returned (.tuple #[v, .bool ok]) ∧ Below w.heap.size w w' ∧ (ok = true → OkC cs ∧ s.data.toList = cs.flatten ∧ CRow w' w.heap.size v cs)
theorem cells_new (w : World) (cs : List Value) (e : TypeId) (j : Nat) (u : Value) (hj : cs[j]? = some u) : (w.alloc (.cells cs.toArray e)).cell? ((⟨w.heap.size, 0, none⟩ : Addr).add j) = some u := by
  have : (w.alloc (.cells cs.toArray e)).heap[w.heap.size]? = some (.cells cs.toArray e) := heap_alloc_new w _
  have e0 : (⟨w.heap.size, 0, none⟩ : Addr).add j = ⟨w.heap.size, j, none⟩ := by unfold Addr.add; split <;> simp_all
  rw [e0]
  unfold World.cell?
  simp only [this]
  simpa using hj
/-- append(out, x), x of one element, out the call's own. -/
theorem app_own {ops : Array Oper} {rest : List Oper} {o : Oper} {a : Act} {Q : Exit → Act → World → Prop} {W0 W : World} (hgd : o.guard = none) (sl x : Operand) (t e sz bytes : Nat) (z : Value)
    (ho : o.op = .call { callee := .builtin .append, args := #[sl, x], argTypes := #[t, t] })
    (ht : Tryd.prog.underlying t = some (.slice e)) (hinfo : (Tryd.prog.info? e).map (fun i => (i.zero, i.size, i.bytes)) = some (some z, sz, bytes)) (hzs : z.cells.size = sz) (hsz : 0 < sz) (hby : bytes ≤ 64)
    {B : Nat} {v : Value} {n cx : Nat} {xs cells : List Value} (HR : Aside0 (W.ownsRow B e sz v n xs)) (HB : Aside0 (Below B W0 W)) (hB : Aside0 (B ≤ W.heap.size)) (hcl : cells.length = sz) (hone : ∀ u ∈ cells, u.oneCell' = true) (hn : Aside0 (n ≤ 65536))
    (hs : a.eval sl = v) (hx : a.eval x = .slice (some ⟨W.heap.size, 0, none⟩) 1 cx)
    (hh : ∀ v' w1, Aside0 (w1.ownsRow B e sz v' (n + 1) (xs ++ cells)) → Aside0 (Below B W0 w1) → Aside0 (B ≤ w1.heap.size) → wpList Tryd.prog ops Q rest (a.put o.dst v') w1) :
    wpList Tryd.prog ops Q (o :: rest) a (W.alloc (.cells cells.toArray e)) := by
  obtain ⟨i0, hi, hz0, hz1, hz2⟩ := info_parts hinfo
  have hn' := hn.out
  have hB' := hB.out
  have hsa : (W.alloc (.cells cells.toArray e)).heap.size = W.heap.size + 1 := by simp [World.size_alloc]
  refine wpList_append_own _ hgd sl x t ho B e i0 z sz bytes ht hi hz0 hz1 hz2 hzs hsz v n xs hs (HR.out.alloc _) ⟨W.heap.size, 0, none⟩ 1 cx cells hx (by rw [hcl, Nat.one_mul]) (cells_new _ _ _) hone (by unfold maxLen; omega) (by have := Nat.mul_le_mul (show n + 1 ≤ 65537 by omega) hby; omega) (by omega) ?_
  intro v' w1 hown hgrow _
  have hb : Below B W0 w1 := (HB.out.alloc hB' _).grown hgrow (by omega) (own_base HR.out)
  exact hh v' w1 ⟨hown⟩ ⟨hb⟩ ⟨by have := hgrow.size; omega⟩
set_option maxHeartbeats 4000000 in
set_option maxRecDepth 100000 in
theorem chars_calls (s : ByteArray) (w : World) (hs : s.size ≤ 65536) : Calls Tryd.prog 42 #[.string s] w (Chars s w) := by
  go_enter Tryd.func42, Tryd.ntmps42
  go_wp2_with fail
  go_loopw [4, 5, 6, 7, 8] (fun v a cc nn kk wr => ∃ (m : Nat) (cs : List (List UInt8)), m ≤ s.size ∧ a = .int .i64 m ∧ Aside0 (cs.flatten.length = m ∧ cs.length ≤ m) ∧ Aside0 (OkC cs) ∧ Aside0 (s.data.toList = cs.flatten ++ s.data.toList.drop m) ∧ Aside0 (CRow wr w.heap.size v cs) ∧ Aside0 (Below w.heap.size w wr)) (fun _ a _ _ _ _ => s.size - (intOf a).toNat)
  case atStart => exact ⟨0, [], Nat.zero_le _, rfl, ⟨rfl, Nat.le_refl _⟩, ⟨fun q hq => by simp at hq⟩, ⟨by simp⟩, ⟨World.ownsRow_nil _ _ _ _⟩, ⟨Below.refl _ _⟩⟩
  case round =>
    obtain ⟨m, cs, hm, rfl, HL, HO, HD, HR, HB⟩ := hrel
    by_cases hlt : m < s.size
    · obtain ⟨d, hd⟩ : ∃ d, d = decodeL (s.data.toList.drop m) := ⟨_, rfl⟩
      have C := Aside0.mk (fun W => chr_calls s m W hlt (by omega))
      rw [← hd] at C
      obtain ⟨dv, dl⟩ := d
      have hne : s.data.toList.drop m ≠ [] := by
        intro h
        have := congrArg List.length h
        rw [List.length_drop, ← size_list] at this
        simp at this
        omega
      by_cases hb : badHead (s.data.toList.drop m) = true
      · have hb' : (dv == 65533 && dl == 1) = true := by have := bad_iff.1 hb; rw [← hd] at this; simp; exact this
        clear hd hb
        go_wp2_with (go_at_call 64; refine (C.out _).mono ?_; rintro e w1 ⟨rfl, rfl⟩)
        all_goals go_ret2
        all_goals (unfold Chars; exact ⟨_, false, [], rfl, HB.out, fun h => by cases h⟩)
      · have hbf : badHead (s.data.toList.drop m) = false := by simpa using hb
        have hb' : (dv == 65533 && dl == 1) = false := by
          have h2 : ¬ (dv = 65533 ∧ dl = 1) := fun h => hb (bad_iff.2 (by rw [← hd]; exact h))
          simpa using h2
        obtain ⟨h1, h2, h3⟩ := chr_head hne hbf
        rw [← hd] at h1 h2 h3
        simp only at h1 h2 h3
        have hq : IsChr ((s.data.toList.drop m).take dl) := h1
        have hqv : chv ((s.data.toList.drop m).take dl) = dv := by unfold chv; rw [h2]
        have hql := chr_pos hq
        have hdl : m + dl ≤ s.size := by rw [List.length_drop, ← size_list] at h3; omega
        have hdl1 : 1 ≤ dl := by
          rcases Nat.eq_zero_or_pos dl with h | h
          · rw [h] at hql; simp at hql
          · exact h
        have HQ := Aside0.mk (And.intro hq (And.intro hqv h3))
        clear hd hb hbf h1 h2 h3 hq hqv hql hne
        have hcm : Aside0 (cs.length ≤ 65536) := ⟨by have := HL.out.2; omega⟩
        have hBs : Aside0 (w.heap.size ≤ wr.heap.size) := ⟨HB.out.size⟩
        have HRo : Aside0 (wr.ownsRow w.heap.size 3 1 _ cs.length (chvals cs)) := ⟨HR.out⟩
        go_wp2_with (first
          | (go_at_call 64; refine (C.out _).mono ?_; rintro e w1 ⟨rfl, rfl⟩)
          | (at_builtin; refine app_own rfl _ _ 67 3 1 8 _ rfl Tryd.underlying67 info3 rfl (by decide) (by decide) (cells := [Value.int .i64 dv]) HRo HB hBs rfl (by intro u hu; simp at hu; subst hu; rfl) hcm rfl rfl ?_; intro v' w1 HR1 HB1 hBs1))
        go_roundw
        case rel =>
          obtain ⟨hq, hqv, h3⟩ := HQ.out
          have hql : ((s.data.toList.drop m).take dl).length = dl := by rw [List.length_take]; omega
          refine ⟨m + dl, cs ++ [(s.data.toList.drop m).take dl], by omega, by go_num, ⟨?_⟩, ⟨?_⟩, ⟨?_⟩, ⟨?_⟩, HB1⟩
          · have := HL.out
            rw [flatten_snoc, List.length_append, List.length_append, hql, List.length_singleton]; omega
          · intro q hq2
            rcases List.mem_append.1 hq2 with h | h
            · exact HO.out q h
            · simp at h; rw [h]; exact hq
          · rw [flatten_snoc, List.append_assoc]
            have e1 : (s.data.toList.drop m).take dl ++ s.data.toList.drop (m + dl) = s.data.toList.drop m := by rw [← List.drop_drop, List.take_append_drop]
            rw [e1]; exact HD.out
          · have := HR1.out
            unfold CRow chvals
            rw [List.length_append, List.length_singleton, List.map_append, List.map_singleton, hqv]
            exact this
        case measure => simp [intOf]; omega
    · obtain rfl : m = s.size := by omega
      go_wp2_with fail
      all_goals go_ret2
      all_goals (unfold Chars; exact ⟨_, true, cs, rfl, HB.out, fun _ => ⟨HO.out, by have := HD.out; rw [List.drop_eq_nil_of_le (by rw [← size_list]; exact Nat.le_refl _), List.append_nil] at this; exact this, HR.out⟩⟩)
end Go.Proofs.YtiecdhkmlpceoaaDoor.G
