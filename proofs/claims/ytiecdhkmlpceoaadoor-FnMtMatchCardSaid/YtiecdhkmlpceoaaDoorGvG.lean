/- The reference's table of what fits, walked. -/
import Derived.Test.YtiecdhkmlpceoaaDoorGvF
namespace Go.Proofs.YtiecdhkmlpceoaaDoor.G
set_option linter.unusedVariables false
set_option linter.unusedSimpArgs false
open Go.RowKit Go.Proofs.YtiecdhkmlpceoaaDoorW.PrintWords

theorem row_sh {w : World} {b0 : Nat} {e sz n : Nat} {v : Value} {xs : List Value} (h : w.ownsRow b0 e sz v n xs) : ∃ (ao : Option Addr) (c : Nat), v = .slice ao n c := by
  rcases h.2 with ⟨rfl, rfl⟩ | ⟨g, cap, cur, rfl, _⟩
  · exact ⟨none, 0, rfl⟩
  · exact ⟨_, _, rfl⟩
theorem chvals_len (cs : List (List UInt8)) : (chvals cs).length = cs.length := by simp [chvals]
/-- make([]bool, n). -/
theorem mk_own {ops : Array Oper} {rest : List Oper} {o : Oper} {a : Act} {Q : Exit → Act → World → Prop} {W0 W : World} (hgd : o.guard = none) (l c : Operand) (ho : o.op = Op.makeSlice 100 l c) {B n : Nat} {L C : Int}
    (HB : Aside0 (Below B W0 W)) (hB : Aside0 (B ≤ W.heap.size)) (hn : Aside0 (n ≤ 70000)) (hl : a.eval l = .int .i64 L) (hc : a.eval c = .int .i64 C) (hL : L = (n : Int)) (hC : C = (n : Int))
    (hp : Aside0 (0 < n)) (hh : ∀ w1, w1.cell? ⟨W.heap.size, 0, none⟩ = some (.bool false) → w1.frozen? ⟨W.heap.size, 0, none⟩ = false → Aside0 (w1.ownsRow B 4 1 (.slice (some ⟨W.heap.size, 0, none⟩) n n) n (bl (upto (fun _ => false) 0) n)) → Aside0 (W.grownBy w1 none) → wpList Tryd.prog ops Q rest (a.put o.dst (.slice (some ⟨W.heap.size, 0, none⟩) n n)) w1) :
    wpList Tryd.prog ops Q (o :: rest) a W := by
  obtain ⟨i0, hi, hz0, hz1, hz2⟩ := info_parts info4
  have hn' := hn.out
  refine wpList_make_full _ hgd l c 100 ho B 4 i0 (.bool false) 1 Tryd.underlying100 hi hz0 hz1 _ _ L C n hl hc hL hC (by rw [hz2]; omega) (by unfold maxLen; omega) hB.out ?_
  intro w1 hown hg
  rw [bl_made n (fun _ => false)] at hown
  exact hh w1 (by rw [hown.cellAt 0 (by have := hp.out; omega), bl_get hp.out]; rfl) (hown.frozenAt 0) ⟨hown⟩ ⟨hg⟩
theorem bl_skip {f : Nat → Bool} {n k : Nat} (h : f k = false) : bl (upto f (k + 1)) n = bl (upto f k) n := by
  refine bl_ext fun j hj => ?_
  unfold upto
  by_cases e : j = k
  · subst e; rw [if_pos (by omega), if_neg (by omega), h]
  · by_cases h : j < k
    · rw [if_pos h, if_pos (by omega)]
    · rw [if_neg h, if_neg (by omega)]
theorem tvals_at : ∀ {ts : List Tm} {i : Nat} (h : i < ts.length) {j : Nat} (hj : j < 3), (tvals ts)[i * 3 + j]? = (tcells ts[i])[j]?
  | t :: ts, 0, h, j, hj => by
    unfold tvals
    rw [List.map_cons, List.flatten_cons, List.getElem?_append_left (by rw [tcells_len]; omega), Nat.zero_mul, Nat.zero_add]; rfl
  | t :: ts, i + 1, h, j, hj => by
    unfold tvals
    rw [List.map_cons, List.flatten_cons, List.getElem?_append_right (by rw [tcells_len]; omega), tcells_len, show (i + 1) * 3 + j - 3 = i * 3 + j by omega]
    exact tvals_at (ts := ts) (by simpa using h) hj
theorem tcells_form (t : Tm) : ∃ (b1 b2 : Bool) (v : Int), tcells t = [.bool b1, .bool b2, .int .i64 v] := by cases t <;> exact ⟨_, _, _, rfl⟩
set_option maxHeartbeats 4000000 in
set_option maxRecDepth 100000 in
theorem fits_calls (cv tv : Value) (cs : List (List UInt8)) (ts : List Tm) (w : World) (b0 b1 : Nat) (hC : CRow w b0 cv cs) (hT : TRow w b1 tv ts) (hcs : OkC cs) (hts : OkT ts) (hn : cs.length ≤ 65536) (hm : ts.length ≤ 65536) :
    Calls Tryd.prog 44 #[cv, tv] w (fun e w' => e = .returned (.bool (fits ts cs cs.length)) ∧ Below w.heap.size w w') := by
  obtain ⟨ca, cc, rfl⟩ := row_sh hC
  obtain ⟨ta, tc, rfl⟩ := row_sh hT
  have HC := Aside0.mk hC
  have HT := Aside0.mk hT
  have HCS := Aside0.mk hcs
  have HTS := Aside0.mk hts
  clear hC hT hcs hts
  generalize hnn : cs.length = n at *
  have HN := Aside0.mk hnn
  clear hnn
  generalize hmm : ts.length = m at *
  have HM := Aside0.mk hmm
  clear hmm
  have HB0 : Aside0 (Below w.heap.size w w) := ⟨Below.refl _ _⟩
  have hB0 : Aside0 (w.heap.size ≤ w.heap.size) := ⟨Nat.le_refl _⟩
  have hn1 : Aside0 (n + 1 ≤ 70000) := ⟨by omega⟩
  go_enter Tryd.func44, Tryd.ntmps44
  have hp1 : Aside0 (0 < n + 1) := ⟨by omega⟩
  go_wp2_with (first | (at_make; refine mk_own (n := n + 1) rfl _ _ rfl HB0 hB0 hn1 rfl rfl (by omega) (by omega) hp1 ?_; intro w1 hx1 hx2 HX HG) )
  go_loopw [5, 7, 8, 9, 18] (fun v5 v7 v8 v9 v18 wr => ∃ (i R c : Nat), i ≤ m ∧ v18 = .int .i64 i ∧ v5 = .slice (some ⟨R, 0, none⟩) (n + 1) c ∧ Aside0 (wr.ownsRow w.heap.size 4 1 v5 (n + 1) (bl (fits (ts.take i) cs) (n + 1))) ∧ Aside0 (Below w.heap.size w wr)) (fun _ _ _ _ i _ => m - (intOf i).toNat)
  case atStart =>
    refine ⟨0, w.heap.size, n + 1, Nat.zero_le _, rfl, rfl, ⟨?_⟩, ⟨?_⟩⟩
    · have := (HX.out.stored 0 (.bool true)).1
      rw [← HN.out, bl_first, HN.out] at this
      exact this
    · exact ((Below.refl _ _).grown HG.out (Nat.le_refl _) (fun k h => by cases h)).setCell (Nat.le_refl _) _
  case round =>
    obtain ⟨i, R, c, hi, rfl, rfl, HR, HB⟩ := hrel
    by_cases hlt : i < m
    · obtain ⟨T, tcap, hte, hT1, hT2, -, -, hT5, hT6⟩ := row_at (row_keep HT.out HB.out) (by rw [HM.out]; omega)
      rw [HM.out] at hte
      obtain ⟨rfl, -, rfl⟩ : ta = some ⟨T, 0, none⟩ ∧ m = m ∧ tc = tcap := by simpa using hte
      clear hte
      obtain ⟨t, ht⟩ : ∃ t, t = ts[i]'(by rw [HM.out]; exact hlt) := ⟨_, rfl⟩
      obtain ⟨x1, x2, x3, hx⟩ := tcells_form t
      have htv : ∀ j, j < 3 → (tvals ts)[i * 3 + j]? = [Value.bool x1, .bool x2, .int .i64 x3][j]? := fun j hj => by rw [tvals_at (by rw [HM.out]; exact hlt) hj, ← ht, hx]
      have hc0 : wr.cell? ⟨T, i * 3, none⟩ = some (.bool x1) := by rw [hT5 _ (by rw [HM.out]; omega)]; exact htv 0 (by omega)
      have hc1 : wr.cell? ⟨T, i * 3 + 1, none⟩ = some (.bool x2) := by rw [hT5 _ (by rw [HM.out]; omega)]; exact htv 1 (by omega)
      have hc2 : wr.cell? ⟨T, i * 3 + 2, none⟩ = some (.int .i64 x3) := by rw [hT5 _ (by rw [HM.out]; omega)]; exact htv 2 (by omega)
      clear hT1 hT2 hT5 hT6 htv
      have HTI := Aside0.mk ht
      have HTX := Aside0.mk hx
      clear ht hx
      have HB1 : Aside0 (Below w.heap.size w (wr.alloc (.cells #[.bool x1, .bool x2, .int .i64 x3] 99))) := ⟨HB.out.alloc HB.out.size _⟩
      have hB1 : Aside0 (w.heap.size ≤ (wr.alloc (.cells #[.bool x1, .bool x2, .int .i64 x3] 99)).heap.size) := ⟨by rw [World.size_alloc]; have := HB.out.size; omega⟩
      go_wp2_with (first | (at_make; refine mk_own (n := n + 1) rfl _ _ rfl HB1 hB1 hn1 rfl rfl (by omega) (by omega) hp1 ?_; intro w2 hy1 hy2 HX2 HG2) )
      have hRlt : Aside0 (R < wr.heap.size) := ⟨(HR.out.lt R rfl).2⟩
      have HB2 : Aside0 (Below w.heap.size w w2) := ⟨HB1.out.grown HG2.out hB1.out (fun k h => by cases h)⟩
      have HR2 : Aside0 (w2.ownsRow w.heap.size 4 1 (.slice (some ⟨R, 0, none⟩) (n + 1) c) (n + 1) (bl (fits (ts.take i) cs) (n + 1))) := ⟨(HR.out.alloc _).kept HG2.out (.inr (by simp [Value.ownBlock]))⟩
      have HG3 : Aside0 (w2.ownsRow w.heap.size 99 3 (.slice (some ⟨wr.heap.size, 0, none⟩) 1 1) 1 [.bool x1, .bool x2, .int .i64 x3]) := ⟨(World.ownsRow_lit wr #[.bool x1, .bool x2, .int .i64 x3] 1 HB.out.size (by decide) (by rfl)).kept HG2.out (.inr (by simp [Value.ownBlock]))⟩
      have HX3 : Aside0 (w2.ownsRow w.heap.size 4 1 (.slice (some ⟨wr.heap.size + 1, 0, none⟩) (n + 1) (n + 1)) (n + 1) (bl (upto (fits (ts.take (i + 1)) cs) 0) (n + 1))) := ⟨by have := HX2.out; rw [World.size_alloc, bl_none] at this; rw [bl_none]; exact this⟩
      clear hy1 hy2 HX2 hc0 hc1 hc2 HB1 hB1 HG2
      generalize hGG : wr.heap.size = G at *
      have HGG := Aside0.mk hGG
      clear hGG
      go_loopw [9] (fun v9 wx => ∃ (k : Nat), k ≤ n + 1 ∧ v9 = .int .i64 k ∧ Aside0 (wx.ownsRow w.heap.size 4 1 (.slice (some ⟨G + 1, 0, none⟩) (n + 1) (n + 1)) (n + 1) (bl (upto (fits (ts.take (i + 1)) cs) k) (n + 1))) ∧ Aside0 (wx.ownsRow w.heap.size 4 1 (.slice (some ⟨R, 0, none⟩) (n + 1) c) (n + 1) (bl (fits (ts.take i) cs) (n + 1))) ∧ Aside0 (wx.ownsRow w.heap.size 99 3 (.slice (some ⟨G, 0, none⟩) 1 1) 1 [.bool x1, .bool x2, .int .i64 x3]) ∧ Aside0 (Below w.heap.size w wx)) (fun k _ => n + 1 - (intOf k).toNat)
      case atStart => exact ⟨0, Nat.zero_le _, rfl, HX3, HR2, HG3, HB2⟩
      case round =>
        obtain ⟨k, hk, rfl, HX, HR, HG, HB⟩ := hrel
        by_cases hlk : k ≤ n
        · have gc0 : wr.cell? ⟨G, 0, none⟩ = some (.bool x1) := by rw [HG.out.cellAt 0 (by omega)]; rfl
          have gc1 : wr.cell? ⟨G, 1, none⟩ = some (.bool x2) := by rw [HG.out.cellAt 1 (by omega)]; rfl
          have gc2 : wr.cell? ⟨G, 2, none⟩ = some (.int .i64 x3) := by rw [HG.out.cellAt 2 (by omega)]; rfl
          have rk : wr.cell? ⟨R, k, none⟩ = some (.bool (fits (ts.take i) cs k)) := by rw [HR.out.cellAt k (by omega), bl_get (by omega)]
          have xk : wr.cell? ⟨G + 1, k, none⟩ = some (.bool (upto (fits (ts.take (i + 1)) cs) k k)) := by rw [HX.out.cellAt k (by omega), bl_get (by omega)]
          have xf : wr.frozen? ⟨G + 1, k, none⟩ = false := HX.out.frozenAt k
          have htk : ts.take (i + 1) = ts.take i ++ [t] := by rw [HTI.out, List.take_add_one, List.getElem?_eq_getElem (by rw [HM.out]; exact hlt)]; rfl
          have HS := fun b => Aside0.mk (HX.out.stored k (.bool b)).1
          have HSR := fun b => Aside0.mk (ownsRow_setCell_other HR.out (a := ⟨G + 1, k, none⟩) (by have := hRlt.out; simp [Value.ownBlock]; omega) (.bool b))
          have HSG := fun b => Aside0.mk (ownsRow_setCell_other HG.out (a := ⟨G + 1, k, none⟩) (by simp [Value.ownBlock]) (.bool b))
          have HGB : Aside0 (w.heap.size ≤ G) := ⟨by have := (HG.out.lt G rfl).1; exact this⟩
          have HSB := fun b => Aside0.mk (HB.out.setCell (p := ⟨G + 1, k, none⟩) (by have := HGB.out; simp; omega) (.bool b))
          have hnx : ∀ b, b = fits (ts.take (i + 1)) cs k → (bl (upto (fits (ts.take (i + 1)) cs) k) (n + 1)).set k (.bool b) = bl (upto (fits (ts.take (i + 1)) cs) (k + 1)) (n + 1) := fun b hb => by rw [hb, bl_next]
          have HNX := Aside0.mk hnx
          have HTK := Aside0.mk htk
          clear hnx htk
          cases t with
          | star =>
            obtain ⟨rfl, rfl, rfl⟩ : true = x1 ∧ false = x2 ∧ 0 = x3 := by simpa [tcells] using HTX.out
            cases k with
            | zero =>
              cases hb : fits (ts.take i) cs 0 <;> rw [hb] at rk
              all_goals go_wp2_with fail
              all_goals (refine ⟨⟨1, by omega, by go_num, ⟨?_⟩, HSR _, HSG _, HSB _⟩, by simp [intOf] <;> omega⟩; have := (HS (fits (ts.take i) cs 0)).out; rw [HNX.out _ (by rw [HTK.out, fits_star0])] at this; rw [hb] at this; exact this)
            | succ k =>
              have xk' : wr.cell? ⟨G + 1, k, none⟩ = some (.bool (fits (ts.take (i + 1)) cs k)) := by rw [HX.out.cellAt k (by omega), bl_get (by omega)]; unfold upto; rw [if_pos (by omega)]
              have HF := Aside0.mk (show fits (ts.take (i + 1)) cs (k + 1) = (fits (ts.take i) cs (k + 1) || fits (ts.take (i + 1)) cs k) by rw [HTK.out, fits_star (by rw [HN.out]; omega)])
              cases hb : fits (ts.take i) cs (k + 1) <;> rw [hb] at rk HF <;> cases hb2 : fits (ts.take (i + 1)) cs k <;> rw [hb2] at xk' HF
              all_goals go_wp2_with fail
              all_goals (refine ⟨⟨k + 2, by omega, by go_num, ⟨?_⟩, HSR _, HSG _, HSB _⟩, by simp [intOf] <;> omega⟩; have := (HS (fits (ts.take (i + 1)) cs (k + 1))).out; rw [HNX.out _ rfl, HF.out] at this; exact this)
          | one =>
            obtain ⟨rfl, rfl, rfl⟩ : false = x1 ∧ true = x2 ∧ 0 = x3 := by simpa [tcells] using HTX.out
            cases k with
            | zero =>
              have HF := Aside0.mk (show fits (ts.take (i + 1)) cs 0 = false by rw [HTK.out, fits_zero (by intro h; cases h)])
              go_wp2_with fail
              all_goals exact ⟨⟨1, by omega, by go_num, ⟨by rw [bl_skip HF.out]; exact HX.out⟩, HR, HG, HB⟩, by simp [intOf] <;> omega⟩
            | succ k =>
              have rk' : wr.cell? ⟨R, k, none⟩ = some (.bool (fits (ts.take i) cs k)) := by rw [HR.out.cellAt k (by omega), bl_get (by omega)]
              have HF := Aside0.mk (show fits (ts.take (i + 1)) cs (k + 1) = fits (ts.take i) cs k by rw [HTK.out, fits_one (by rw [HN.out]; omega)])
              cases hb : fits (ts.take i) cs k <;> rw [hb] at rk' HF
              · go_wp2_with fail
                exact ⟨⟨k + 2, by omega, by go_num, ⟨by rw [bl_skip HF.out]; exact HX.out⟩, HR, HG, HB⟩, by simp [intOf] <;> omega⟩
              · go_upto_region 13 with fail
                go_region
                go_wp2_with fail
                all_goals (refine ⟨⟨k + 2, by omega, by go_num, ⟨?_⟩, ⟨(HSR _).out.drew⟩, ⟨(HSG _).out.drew⟩, ⟨(HSB _).out.drew⟩⟩, by simp [intOf] <;> omega⟩; have := (HS (fits (ts.take (i + 1)) cs (k + 1))).out; rw [HNX.out _ rfl, HF.out] at this; exact this.drew)
          | lit e q =>
            obtain ⟨rfl, rfl, rfl⟩ : false = x1 ∧ false = x2 ∧ (chv q : Int) = x3 := by simpa [tcells] using HTX.out
            cases k with
            | zero =>
              have HF := Aside0.mk (show fits (ts.take (i + 1)) cs 0 = false by rw [HTK.out, fits_zero (by intro h; cases h)])
              go_wp2_with fail
              all_goals exact ⟨⟨1, by omega, by go_num, ⟨by rw [bl_skip HF.out]; exact HX.out⟩, HR, HG, HB⟩, by simp [intOf] <;> omega⟩
            | succ k =>
              have rk' : wr.cell? ⟨R, k, none⟩ = some (.bool (fits (ts.take i) cs k)) := by rw [HR.out.cellAt k (by omega), bl_get (by omega)]
              have hkc : k < cs.length := by rw [HN.out]; omega
              have HF := Aside0.mk (show fits (ts.take (i + 1)) cs (k + 1) = (fits (ts.take i) cs k && (chv q : Int) == (chv cs[k] : Int)) by
                rw [HTK.out, fits_lit hkc (HTS.out (.lit e q) (by rw [HTI.out]; exact List.getElem_mem _)).1 (HCS.out _ (List.getElem_mem hkc))])
              cases hb : fits (ts.take i) cs k <;> rw [hb] at rk' HF
              · go_wp2_with fail
                exact ⟨⟨k + 2, by omega, by go_num, ⟨by rw [bl_skip (by rw [HF.out]; rfl)]; exact HX.out⟩, HR, HG, HB⟩, by simp [intOf] <;> omega⟩
              · obtain ⟨CB, ccap, hce, -, -, -, -, hC5, -⟩ := row_at (row_keep HC.out HB.out) (by omega)
                have hce' : Value.slice ca n cc = .slice (some ⟨CB, 0, none⟩) n ccap := by rw [hce, HN.out]
                obtain ⟨rfl, rfl⟩ : ca = some ⟨CB, 0, none⟩ ∧ cc = ccap := by simpa using hce'
                have ck : wr.cell? ⟨CB, k, none⟩ = some (.int .i64 (chv cs[k])) := by rw [hC5 k (by omega)]; unfold chvals; rw [List.getElem?_map, List.getElem?_eq_getElem hkc]; rfl
                generalize (chv cs[k] : Int) = y at ck HF
                generalize (chv q : Int) = z at *
                clear hC5 hce hce' hkc
                go_upto_region 13 with fail
                go_region
                go_wp2_with fail
                all_goals (refine ⟨⟨k + 2, by omega, by go_num, ⟨?_⟩, ⟨(HSR _).out.drew⟩, ⟨(HSG _).out.drew⟩, ⟨(HSB _).out.drew⟩⟩, by simp [intOf] <;> omega⟩; have := (HS (fits (ts.take (i + 1)) cs (k + 1))).out; rw [HNX.out _ rfl, HF.out, Bool.true_and] at this; exact this.drew)
        · obtain rfl : k = n + 1 := by omega
          go_wp2_with fail
          refine ⟨⟨i + 1, G + 1, n + 1, by omega, by go_num, rfl, ⟨?_⟩, HB⟩, by simp [intOf]; omega⟩
          have := HX.out
          rw [bl_full] at this; exact this
    · obtain rfl : i = m := by omega
      have hr : wr.cell? ⟨R, n, none⟩ = some (.bool (fits ts cs n)) := by
        rw [HR.out.cellAt n (by omega), bl_get (by omega), List.take_of_length_le (by rw [HM.out]; exact Nat.le_refl _)]
      go_wp2_with fail
      all_goals go_ret
      all_goals exact ⟨rfl, HB.out⟩
end Go.Proofs.YtiecdhkmlpceoaaDoor.G
