/- The reference's reader: values. -/
import Derived.Test.YtpahejmkidhhhaaDoorGrM
import Derived.Laws.ResultCell
import Derived.Laws.Rows
namespace Go.Proofs.YtpahejmkidhhhaaDoor.G
set_option linter.unusedVariables false
set_option linter.unusedSimpArgs false
open Go.RowKit Go.Proofs.YtpahejmkidhhhaaDoorW.PrintWords

/-- The two blocks of a value's walk: the result's and the place's; the reader is where it was, or on. -/
structure VF (w W : World) (R : Nat) (S : ByteArray) (m : Nat) (k b z : Int) (nv kv : Value) : Prop where
  mv : Mv w W R S m
  res : W.heap[w.heap.size]? = some (.cells #[.int .i64 0, .int .i64 0, .int .i64 0, .slice none 0 0, .slice none 0 0] 27)
  pl : W.heap[w.heap.size + 1]? = some (.cells #[.int .i64 k, .int .i64 b, .int .i64 z, nv, kv] 27)
theorem VF.start {w : World} {R m : Nat} {S : ByteArray} {b : Int} (h : RS w R S m) : VF w ((w.alloc (.cells #[.int .i64 0, .int .i64 0, .int .i64 0, .slice none 0 0, .slice none 0 0] 27)).alloc (.cells #[.int .i64 0, .int .i64 b, .int .i64 0, .slice none 0 0, .slice none 0 0] 27)) R S m 0 b 0 (.slice none 0 0) (.slice none 0 0) := by
  refine ⟨(h.same.alloc h.lt _).alloc h.lt _, ?_, ?_⟩
  · rw [Below.heap_alloc _ _ _ (by rw [World.size_alloc]; omega)]; exact heap_alloc_new _ _
  · have := heap_alloc_new (w.alloc (.cells #[.int .i64 0, .int .i64 0, .int .i64 0, .slice none 0 0, .slice none 0 0] 27)) (.cells #[.int .i64 0, .int .i64 b, .int .i64 0, .slice none 0 0, .slice none 0 0] 27)
    rw [World.size_alloc] at this; exact this
theorem VF.drewN {w W : World} {R m : Nat} {S : ByteArray} {k b z : Int} {nv kv : Value} (h : VF w W R S m k b z nv kv) (n : Nat) : VF w (W.drewN n) R S m k b z nv kv := ⟨h.mv.drewN n, h.res, h.pl⟩
theorem VF.kind {w W : World} {R m : Nat} {S : ByteArray} {k b z : Int} {nv kv : Value} (h : VF w W R S m k b z nv kv) (hR : R < w.heap.size) (k2 : Int) : VF w (W.setCell ⟨w.heap.size + 1, 0, none⟩ (.int .i64 k2)) R S m k2 b z nv kv := by
  refine ⟨h.mv.grown (row := some (w.heap.size + 1)) ⟨rfl, rfl, rfl, by simp [World.setCell], fun j hj hn => Below.heap_setCell _ _ _ _ (by intro e; exact hn (by rw [e]))⟩ (fun j hj => by cases hj; omega) hR, ?_, ?_⟩
  · rw [Below.heap_setCell _ _ _ _ (by simp)]; exact h.res
  · have := h.pl
    simp [World.setCell, Array.getElem?_modify, this]
theorem VF.moved {w W W2 : World} {R m p : Nat} {S : ByteArray} {k b z : Int} {nv kv : Value} (h : VF w W R S m k b z nv kv) (hR : R < w.heap.size) (hM : Mv W W2 R S p) : VF w W2 R S p k b z nv kv := by
  refine ⟨h.mv.trans hM, ?_, ?_⟩
  · rw [hM.g.block _ (by rcases Nat.lt_or_ge w.heap.size W.heap.size with h1 | h1; exact h1; have := h.res; rw [Array.getElem?_eq_none h1] at this; cases this) (by intro e; cases e; omega)]; exact h.res
  · rw [hM.g.block _ (by rcases Nat.lt_or_ge (w.heap.size + 1) W.heap.size with h1 | h1; exact h1; have := h.pl; rw [Array.getElem?_eq_none h1] at this; cases this) (by intro e; cases e; omega)]; exact h.pl
theorem blk_cell {W : World} {h j : Nat} {cs : Array Value} {e : TypeId} {v : Value} (hb : W.heap[h]? = some (.cells cs e)) (hj : cs[j]? = some v) : W.cell? ⟨h, j, none⟩ = some v := by unfold World.cell?; simp [hb, hj]
theorem blk_froz {W : World} {h j : Nat} {cs : Array Value} {e : TypeId} (hb : W.heap[h]? = some (.cells cs e)) : W.frozen? ⟨h, j, none⟩ = false := by unfold World.frozen?; simp [hb]
theorem VF.facts {w W : World} {R m : Nat} {S : ByteArray} {k b z : Int} {nv kv : Value} (h : VF w W R S m k b z nv kv) :
    (W.cell? ⟨w.heap.size + 1, 0, none⟩ = some (.int .i64 k) ∧ W.cell? ⟨w.heap.size + 1, 1, none⟩ = some (.int .i64 b) ∧ W.cell? ⟨w.heap.size + 1, 2, none⟩ = some (.int .i64 z) ∧ W.cell? ⟨w.heap.size + 1, 3, none⟩ = some nv ∧ W.cell? ⟨w.heap.size + 1, 4, none⟩ = some kv ∧ (∀ j, W.frozen? ⟨w.heap.size + 1, j, none⟩ = false)) ∧
    (W.cell? ⟨w.heap.size, 0, none⟩ = some (.int .i64 0) ∧ W.cell? ⟨w.heap.size, 1, none⟩ = some (.int .i64 0) ∧ W.cell? ⟨w.heap.size, 2, none⟩ = some (.int .i64 0) ∧ W.cell? ⟨w.heap.size, 3, none⟩ = some (.slice none 0 0) ∧ W.cell? ⟨w.heap.size, 4, none⟩ = some (.slice none 0 0) ∧ (∀ j, W.frozen? ⟨w.heap.size, j, none⟩ = false)) ∧
    (R < W.heap.size ∧ W.cell? ⟨R, 0, none⟩ = some (.string S) ∧ W.cell? ⟨R, 1, none⟩ = some (.int .i64 m) ∧ W.frozen? ⟨R, 1, none⟩ = false) :=
  ⟨⟨blk_cell h.pl rfl, blk_cell h.pl rfl, blk_cell h.pl rfl, blk_cell h.pl rfl, blk_cell h.pl rfl, fun j => blk_froz h.pl⟩, ⟨blk_cell h.res rfl, blk_cell h.res rfl, blk_cell h.res rfl, blk_cell h.res rfl, blk_cell h.res rfl, fun j => blk_froz h.res⟩, h.mv.r.lt, h.mv.r.c0, h.mv.r.c1, h.mv.r.fz⟩
/-- A store into the place's block. -/
theorem VF.put {w W : World} {R m : Nat} {S : ByteArray} {k b z : Int} {nv kv : Value} (h : VF w W R S m k b z nv kv) (hR : R < w.heap.size) (j : Nat) (v : Value) {k2 b2 z2 : Int} {nv2 kv2 : Value}
    (he : (#[.int .i64 k, .int .i64 b, .int .i64 z, nv, kv] : Array Value).set! j v = #[.int .i64 k2, .int .i64 b2, .int .i64 z2, nv2, kv2]) : VF w (W.setCell ⟨w.heap.size + 1, j, none⟩ v) R S m k2 b2 z2 nv2 kv2 := by
  refine ⟨h.mv.grown (row := some (w.heap.size + 1)) ⟨rfl, rfl, rfl, by simp [World.setCell], fun i hi hn => Below.heap_setCell _ _ _ _ (by intro e; exact hn (by rw [e]))⟩ (fun i hi => by cases hi; omega) hR, ?_, ?_⟩
  · rw [Below.heap_setCell _ _ _ _ (by simp)]; exact h.res
  · have := h.pl
    simp only [World.setCell, Array.getElem?_modify, this, ↓reduceIte, Option.map_some]
    rw [← he]
    rfl
/-- A store into the result's block. -/
theorem res_put {W : World} {hh : Nat} {cs cs2 : Array Value} {e j : Nat} {v : Value} (h : W.heap[hh]? = some (.cells cs e)) (he : cs.set! j v = cs2) : (W.setCell ⟨hh, j, none⟩ v).heap[hh]? = some (.cells cs2 e) := by
  simp only [World.setCell, Array.getElem?_modify, h, ↓reduceIte, Option.map_some]
  rw [← he]
  rfl
theorem leaf_at (w : World) (F : Nat → Prop) (k b e : Nat) : PlAt w F (.mk k b e [] []) [.int .i64 k, .int .i64 b, .int .i64 e, .slice none 0 0, .slice none 0 0] := by
  unfold PlAt
  exact ⟨_, _, [], rfl, ⟨World.ownsRow_nil _ _ _ _, fun g hg => by cases hg⟩, ⟨World.ownsRow_nil _ _ _ _, fun g hg => by cases hg⟩, by unfold PlsAt; rfl⟩
theorem value_ret {fn : Func} (hfn : fn.results = #[.cell 2 27, .tmp 3]) {tmps : Array Value} {W : World} {hh : Nat} {cs : Array Value} {ok : Bool} (h2 : tmps.getD 2 undef = .pointer (some ⟨hh, 0, none⟩)) (h3 : tmps.getD 3 undef = .bool ok) (hg : W.heap[hh]? = some (.cells cs 27)) (hs : cs.size = 5) :
    (results fn tmps).run Tryd.prog W = .ok (.tuple #[.agg cs, .bool ok]) W := by
  rw [results_cell_tmp hfn, h2, h3]
  simp [asAddr, Result.andThen, run_loadVar_row W hh 27 27 cs (0, 0) _ hg Tryd.underlying27 rfl (by rw [hs]; kernel_rfl)]
/-- The end of a value's walk. -/
theorem VF.close {fn : Func} (hfn : fn.results = #[.cell 2 27, .tmp 3]) {w W : World} {R m p : Nat} {S : ByteArray} {k b z : Int} {na : Option Addr} {nn nc : Nat} {ka : Option Addr} {kn kc : Nat} {ok : Bool} (h : VF w W R S p k b z (.slice na nn nc) (.slice ka kn kc)) (hR : R < w.heap.size) (hp : p ≤ S.size) {o : Option (Pl × Nat)}
    (hA : match o with | none => ok = false | some (t, j) => ok = true ∧ p = m + j ∧ PlAt W (From (w.heap.size + 2)) t [.int .i64 k, .int .i64 b, .int .i64 z, .slice na nn nc, .slice ka kn kc])
    (a : Act) (h2 : a.tmps.getD 2 undef = .pointer (some ⟨w.heap.size, 0, none⟩)) (h3 : a.tmps.getD 3 undef = .bool ok) (hd : a.defers = []) :
    bodyPost Tryd.prog fn (ValA o w R S m) .ret a (((((W.setCell ⟨w.heap.size, 0, none⟩ (.int .i64 k)).setCell ⟨w.heap.size, 1, none⟩ (.int .i64 b)).setCell ⟨w.heap.size, 2, none⟩ (.int .i64 z)).setCell ⟨w.heap.size, 3, none⟩ (.slice na nn nc)).setCell ⟨w.heap.size, 4, none⟩ (.slice ka kn kc)) := by
  have e0 := res_put (j := 0) (v := .int .i64 k) h.res rfl
  have e1 := res_put (j := 1) (v := .int .i64 b) e0 rfl
  have e2 := res_put (j := 2) (v := .int .i64 z) e1 rfl
  have e3 := res_put (j := 3) (v := .slice na nn nc) e2 rfl
  have e4 := res_put (j := 4) (v := .slice ka kn kc) e3 rfl
  have gs : ∀ (V : World) (j : Nat) (v : Value), V.grownBy (V.setCell ⟨w.heap.size, j, none⟩ v) (some w.heap.size) := fun V j v => ⟨rfl, rfl, rfl, by simp [World.setCell], fun i hi hn => Below.heap_setCell _ _ _ _ (by intro e; exact hn (by rw [e]))⟩
  have hg := ((((gs W 0 (.int .i64 k)).trans (gs _ 1 (.int .i64 b))).trans (gs _ 2 (.int .i64 z))).trans (gs _ 3 (.slice na nn nc))).trans (gs _ 4 (.slice ka kn kc))
  refine bodyPost_ret (value_ret hfn h2 h3 e4 rfl) hd ⟨k, b, z, na, nn, nc, ka, kn, kc, ok, p, rfl, h.mv.grown hg (fun j hj => by cases hj; omega) hR, hp, ⟨?_⟩⟩
  cases o with
  | none => exact hA
  | some tj =>
    obtain ⟨t, j⟩ := tj
    obtain ⟨a1, a2, a3⟩ := hA
    refine ⟨a1, a2, PlAt.mono (fun g _ hF => ?_) (PlAt.kept (fun g hgl hF => hg.block g hgl (by intro e; cases e; unfold From at hF; omega)) a3)⟩
    unfold From at hF ⊢; omega
theorem VF.room {w W : World} {R m : Nat} {S : ByteArray} {k b z : Int} {nv kv : Value} (h : VF w W R S m k b z nv kv) : w.heap.size + 2 ≤ W.heap.size := by
  rcases Nat.lt_or_ge (w.heap.size + 1) W.heap.size with h1 | h1
  · exact h1
  · have := h.pl; rw [Array.getElem?_eq_none h1] at this; cases this
/-- Stores into a value's own two blocks touch no tree from behind them. -/
theorem pl_set {w : World} {W : World} {t : Pl} {cs : List Value} {j : Nat} {v : Value} (h : PlAt W (From (w.heap.size + 2)) t cs) : PlAt (W.setCell ⟨w.heap.size + 1, j, none⟩ v) (From (w.heap.size + 2)) t cs :=
  PlAt.kept (fun g hg hF => Below.heap_setCell _ _ _ _ (by unfold From at hF; simp; omega)) h
theorem pls_set {w : World} {W : World} {t : List Pl} {cs : List Value} {j : Nat} {v : Value} (h : PlsAt W (From (w.heap.size + 2)) t cs) : PlsAt (W.setCell ⟨w.heap.size + 1, j, none⟩ v) (From (w.heap.size + 2)) t cs :=
  PlsAt.kept (fun g hg hF => Below.heap_setCell _ _ _ _ (by unfold From at hF; simp; omega)) h
theorem row_set {w : World} {W : World} {e sz n j : Nat} {u v : Value} {xs : List Value} (h : RowF W (From (w.heap.size + 2)) e sz u n xs) : RowF (W.setCell ⟨w.heap.size + 1, j, none⟩ v) (From (w.heap.size + 2)) e sz u n xs :=
  h.kept (fun g hg hF => Below.heap_setCell _ _ _ _ (by unfold From at hF; simp; omega))
set_option maxHeartbeats 8000000 in
set_option maxRecDepth 100000 in
theorem value_step (S : ByteArray) (R m : Nat) (w : World) (h : RS w R S m) (hm : m ≤ S.size) (hs : S.size ≤ 2147483647)
    (VH : ∀ k W, m < k → k ≤ S.size → RS W R S k → Calls Tryd.prog 37 #[.pointer (some ⟨R, 0, none⟩)] W (ValA (V k (rest S k)) W R S k)) :
    Calls Tryd.prog 37 #[.pointer (some ⟨R, 0, none⟩)] w (ValA (V m (rest S m)) w R S m) := by
  have H := Aside0.mk h
  have VH := Aside0.mk VH
  have hs2 : S.size ≤ 140737488351232 := by omega
  have HH := Aside0.mk (fun k W (hk : RS W R S k) => here_calls S R k W hk)
  have F0 := Aside0.mk (VF.start (b := (m : Int)) h)
  have hR := Aside0.mk h.lt
  obtain ⟨h0, hc0, hc1, hfz⟩ := h
  obtain ⟨x, hx⟩ : ∃ x, x = (rest S m).getD 0 0 := ⟨_, rfl⟩
  have HC := Aside0.mk (fun W (hk : RS W R S m) => here_calls S R m W hk)
  rw [← hx] at HC
  have HX := Aside0.mk hx
  clear hx
  have b91 : ∀ y : Int, x = y → ∀ hml : m < S.size, V m (rest S m) = one V m (y :: rest S (m + 1)) := fun y hy hml => by
    rw [V_eq, rest_cons hml]
    have hx0 : (S[m].toNat : Int) = x := by have := HX.out; rw [rest_cons hml] at this; exact this.symm
    rw [hx0, hy]
  have B91 := Aside0.mk b91
  clear b91
  by_cases h91 : x = 91
  · subst h91
    have hml : m < S.size := getD_lt (by rw [← HX.out]; decide)
    have CE := Aside0.mk (fun W (hk : RS W R S m) => elements_calls S R m W hk hml hs VH.out)
    go_enter Tryd.func37, Tryd.ntmps37
    go_wp2_with (first
      | (go_at_call 52; have F1 := Aside0.mk ((F0.out.drewN n).put hR.out 0 (.int .i64 5) (k2 := 5) rfl); refine (CE.out _ F1.out.mv.r).mono ?_; rintro e w2 ⟨ka, kn, kc, ok, p, rfl, ME, hp, hA⟩; have F2 := Aside0.mk (F1.out.moved hR.out ME); obtain ⟨⟨g0, g1, g2, g3, g4, gf⟩, ⟨r0, r1, r2, r3, r4, rf⟩, s0, s1, s2, s3⟩ := F2.out.facts)
      | (go_at_call 50; refine (HC.out _ F0.out.mv.r).mono ?_; rintro e w1 ⟨rfl, n, rfl⟩))
    (try simp only [Exit.inBlock, Exit.then])
    have hF3 := ((F2.out.put hR.out 4 (.slice ka kn kc) rfl).put hR.out 2 (.int .i64 p) rfl)
    refine VF.close rfl hF3 hR.out hp ?_ _ rfl rfl rfl
    have hA2 := hA.out
    rw [B91.out 91 rfl hml]
    simp only [one]
    cases hl : lst V (m + 1) (rest S (m + 1)) with
    | none => rw [hl] at hA2; exact hA2
    | some r =>
      rw [hl] at hA2
      obtain ⟨rfl, hpe, xs, hr1, hr2⟩ := hA2
      refine ⟨rfl, hpe, ?_⟩
      unfold PlAt
      have hpe' : p = m + (1 + r.2) := hpe
      refine ⟨.slice none 0 0, .slice ka kn kc, xs, by rw [hpe']; rfl, ⟨World.ownsRow_nil _ _ _ _, fun g hg => by cases hg⟩, row_set (row_set (hr1.mono fun g _ hF => Nat.le_trans F1.out.room hF)), pls_set (pls_set (PlsAt.mono (fun g _ hF => Nat.le_trans F1.out.room hF) hr2))⟩
  · have n91 : (x == 91) = false := by simpa using h91
    by_cases h123 : x = 123
    · subst h123
      have hml : m < S.size := getD_lt (by rw [← HX.out]; decide)
      have CE := Aside0.mk (fun W (hk : RS W R S m) => members_calls S R m W hk hml hs VH.out)
      clear n91 h91
      go_enter Tryd.func37, Tryd.ntmps37
      go_wp2_with (first
        | (go_at_call 51; have F1 := Aside0.mk ((F0.out.drewN n).put hR.out 0 (.int .i64 6) (k2 := 6) rfl); refine (CE.out _ F1.out.mv.r).mono ?_; rintro e w2 ⟨na, nn, nc, ka, kn, kc, ok, p, rfl, ME, hp, hA⟩; have F2 := Aside0.mk (F1.out.moved hR.out ME); obtain ⟨⟨g0, g1, g2, g3, g4, gf⟩, ⟨r0, r1, r2, r3, r4, rf⟩, s0, s1, s2, s3⟩ := F2.out.facts)
        | (go_at_call 50; refine (HC.out _ F0.out.mv.r).mono ?_; rintro e w1 ⟨rfl, n, rfl⟩))
      (try simp only [Exit.inBlock, Exit.then])
      have hF3 := (((F2.out.put hR.out 3 (.slice na nn nc) rfl).put hR.out 4 (.slice ka kn kc) rfl).put hR.out 2 (.int .i64 p) rfl)
      refine VF.close rfl hF3 hR.out hp ?_ _ rfl rfl rfl
      have hA2 := hA.out
      rw [B91.out 123 rfl hml]
      simp only [one]
      cases hl : obj V (m + 1) (rest S (m + 1)) with
      | none => rw [hl] at hA2; exact hA2
      | some r =>
        rw [hl] at hA2
        obtain ⟨rfl, hpe, hn, xs, hr1, hr2⟩ := hA2
        refine ⟨rfl, hpe, ?_⟩
        unfold PlAt
        have hpe' : p = m + (1 + r.2.2) := hpe
        have rm : ∀ g, From (w.heap.size + 2 + (g - g)) g → True := fun _ _ => trivial
        refine ⟨.slice na nn nc, .slice ka kn kc, xs, by rw [hpe']; rfl, row_set (row_set (row_set (hn.mono fun g _ hF => Nat.le_trans F1.out.room hF))), row_set (row_set (row_set (hr1.mono fun g _ hF => Nat.le_trans F1.out.room hF))), pls_set (pls_set (pls_set (PlsAt.mono (fun g _ hF => Nat.le_trans F1.out.room hF) hr2)))⟩
    · have n123 : (x == 123) = false := by simpa using h123
      by_cases h34 : x = 34
      · subst h34
        have hml : m < S.size := getD_lt (by rw [← HX.out]; decide)
        have CE := Aside0.mk (fun W (hk : RS W R S m) => quoted_calls S R m W hk hml hs2)
        clear n91 h91 n123 h123
        go_enter Tryd.func37, Tryd.ntmps37
        go_wp2_with (first
          | (go_at_call 53; have F1 := Aside0.mk ((F0.out.drewN n).put hR.out 0 (.int .i64 4) (k2 := 4) rfl); refine (CE.out _ F1.out.mv.r).mono ?_; rintro e w2 ⟨ok, p, rfl, ME, hp, hA⟩; have hA := Aside0.mk hA; have F2 := Aside0.mk (F1.out.moved hR.out ME); obtain ⟨⟨g0, g1, g2, g3, g4, gf⟩, ⟨r0, r1, r2, r3, r4, rf⟩, s0, s1, s2, s3⟩ := F2.out.facts)
          | (go_at_call 50; refine (HC.out _ F0.out.mv.r).mono ?_; rintro e w1 ⟨rfl, n, rfl⟩))
        (try simp only [Exit.inBlock, Exit.then])
        have hF3 := (F2.out.put hR.out 2 (.int .i64 p) rfl)
        refine VF.close rfl hF3 hR.out hp ?_ _ rfl rfl rfl
        have hA2 := hA.out
        rw [B91.out 34 rfl hml]
        simp only [one]
        cases hl : quo (rest S (m + 1)) with
        | none => rw [hl] at hA2; exact hA2
        | some q =>
          rw [hl] at hA2
          obtain ⟨rfl, hpe⟩ := hA2
          have hpe' : p = m + (1 + q) := hpe
          refine ⟨rfl, hpe', ?_⟩
          rw [hpe']
          exact leaf_at _ _ 4 m (m + (1 + q))
      · have n34 : (x == 34) = false := by simpa using h34
        by_cases hnum : x = 45 ∨ isDg x = true
        · have hml : m < S.size := getD_lt (by rw [← HX.out]; rintro rfl; rcases hnum with h | h; exact absurd h (by decide); cases h)
          have CE := Aside0.mk (fun W (hk : RS W R S m) => number_calls S R m W hk hm hs2)
          have HO : Aside0 (one V m (x :: rest S (m + 1)) = (num (rest S m)).map fun q => (.mk 3 m (m + q) [] [], q)) := ⟨by
            have hx0 : (S[m].toNat : Int) = x := by have := HX.out; rw [rest_cons hml] at this; exact this.symm
            simp only [one]
            rw [if_neg h123, if_neg h91, if_neg h34, if_pos hnum, rest_cons hml, hx0]⟩
          have step : (x = 45 ∨ (x ≠ 45 ∧ 48 ≤ x ∧ x ≤ 57)) := by
            rcases hnum with h | h
            · exact .inl h
            · have : 48 ≤ x ∧ x ≤ 57 := by unfold isDg at h; simpa using h
              exact .inr ⟨by omega, this⟩
          clear hnum h91 h123 h34
          rcases step with rfl | ⟨hx45, hd1, hd2⟩
          · clear n91 n123 n34
            go_enter Tryd.func37, Tryd.ntmps37
            go_wp2_with (first
              | (go_at_call 54; have F1 := Aside0.mk ((F0.out.drewN n).put hR.out 0 (.int .i64 3) (k2 := 3) rfl); refine (CE.out _ F1.out.mv.r).mono ?_; rintro e w2 ⟨ok, p, rfl, ME, hp, hA⟩; have hA := Aside0.mk hA; have F2 := Aside0.mk (F1.out.moved hR.out ME); obtain ⟨⟨g0, g1, g2, g3, g4, gf⟩, ⟨r0, r1, r2, r3, r4, rf⟩, s0, s1, s2, s3⟩ := F2.out.facts)
              | (go_at_call 50; refine (HC.out _ F0.out.mv.r).mono ?_; rintro e w1 ⟨rfl, n, rfl⟩))
            (try simp only [Exit.inBlock, Exit.then])
            have hF3 := (F2.out.put hR.out 2 (.int .i64 p) rfl)
            refine VF.close rfl hF3 hR.out hp ?_ _ rfl rfl rfl
            have hA2 := hA.out
            rw [B91.out _ rfl hml, HO.out]
            cases hl : num (rest S m) with
            | none => rw [hl] at hA2; exact hA2
            | some q =>
              rw [hl] at hA2
              obtain ⟨rfl, hpe'⟩ := hA2
              refine ⟨rfl, hpe', ?_⟩
              rw [hpe']
              exact leaf_at _ _ 3 m (m + q)
          · have n45 : (x == 45) = false := by simpa using hx45
            go_enter Tryd.func37, Tryd.ntmps37
            go_wp2_with (first
              | (go_at_call 54; have F1 := Aside0.mk ((F0.out.drewN n).put hR.out 0 (.int .i64 3) (k2 := 3) rfl); refine (CE.out _ F1.out.mv.r).mono ?_; rintro e w2 ⟨ok, p, rfl, ME, hp, hA⟩; have hA := Aside0.mk hA; have F2 := Aside0.mk (F1.out.moved hR.out ME); obtain ⟨⟨g0, g1, g2, g3, g4, gf⟩, ⟨r0, r1, r2, r3, r4, rf⟩, s0, s1, s2, s3⟩ := F2.out.facts)
              | (go_at_call 50; refine (HC.out _ F0.out.mv.r).mono ?_; rintro e w1 ⟨rfl, n, rfl⟩))
            (try simp only [Exit.inBlock, Exit.then])
            have hF3 := (F2.out.put hR.out 2 (.int .i64 p) rfl)
            refine VF.close rfl hF3 hR.out hp ?_ _ rfl rfl rfl
            have hA2 := hA.out
            rw [B91.out _ rfl hml, HO.out]
            cases hl : num (rest S m) with
            | none => rw [hl] at hA2; exact hA2
            | some q =>
              rw [hl] at hA2
              obtain ⟨rfl, hpe'⟩ := hA2
              refine ⟨rfl, hpe', ?_⟩
              rw [hpe']
              exact leaf_at _ _ 3 m (m + q)
        · have hx45 : (x == 45) = false := by
            have : ¬ x = 45 := fun h => hnum (.inl h)
            simpa using this
          have hdx : isDg x = false := by
            cases h : isDg x with
            | false => rfl
            | true => exact absurd (.inr h) hnum
          have HO : V m (rest S m) = if pre wnull (rest S m) = true then some (.mk 0 m (m + 4) [] [], 4) else if pre wfalse (rest S m) = true then some (.mk 1 m (m + 5) [] [], 5) else if pre wtrue (rest S m) = true then some (.mk 2 m (m + 4) [] [], 4) else none := by
            by_cases hml : m < S.size
            · rw [B91.out x rfl hml]
              simp only [one]
              rw [if_neg h123, if_neg h91, if_neg h34, if_neg hnum]
              have hx0 : (S[m].toNat : Int) = x := by have := HX.out; rw [rest_cons hml] at this; exact this.symm
              rw [rest_cons hml, hx0]
            · rw [rest_nil hml, V_eq]; rfl
          have hd2 : (48 ≤ x ∧ ¬ x ≤ 57) ∨ ¬ 48 ≤ x := by
            by_cases h : 48 ≤ x
            · refine .inl ⟨h, fun h2 => ?_⟩
              unfold isDg at hdx
              simp [h, h2] at hdx
            · exact .inr h
          have HO := Aside0.mk HO
          have N1 := Aside0.mk (fun W (hk : RS W R S m) => word_calls S ⟨#[110, 117, 108, 108]⟩ R m W hk hm hs2 (by decide))
          have N2 := Aside0.mk (fun W (hk : RS W R S m) => word_calls S ⟨#[102, 97, 108, 115, 101]⟩ R m W hk hm hs2 (by decide))
          have N3 := Aside0.mk (fun W (hk : RS W R S m) => word_calls S ⟨#[116, 114, 117, 101]⟩ R m W hk hm hs2 (by decide))
          rw [show bytesOf ⟨#[110, 117, 108, 108]⟩ = wnull from rfl] at N1
          rw [show bytesOf ⟨#[102, 97, 108, 115, 101]⟩ = wfalse from rfl] at N2
          rw [show bytesOf ⟨#[116, 114, 117, 101]⟩ = wtrue from rfl] at N3
          clear hnum h91 h123 h34 hdx
          cases h1 : pre wnull (rest S m) with
          | true =>
            have hlen : m + 4 ≤ S.size := by have := pre_len h1; rw [rest_len] at this; have h4 : wnull.length = 4 := rfl; omega
            rw [h1] at N1 HO
            clear h1
            rcases hd2 with ⟨hd1, hd2⟩ | hd1
            · go_enter Tryd.func37, Tryd.ntmps37
              go_wp2_with (first
                | (go_at_call 55; refine (N1.out _ F1.out.mv.r).mono ?_; rintro e w2 ⟨rfl, M1⟩; have F2 := Aside0.mk (F1.out.moved hR.out M1); obtain ⟨⟨g0, g1, g2, g3, g4, gf⟩, ⟨r0, r1, r2, r3, r4, rf⟩, s0, s1, s2, s3⟩ := F2.out.facts)
                | (go_at_call 50; refine (HC.out _ F0.out.mv.r).mono ?_; rintro e w1 ⟨rfl, n, rfl⟩; have F1 := Aside0.mk (F0.out.drewN n)))
              (try simp only [Exit.inBlock, Exit.then])
              have hF3 := ((F2.out.put hR.out 0 (.int .i64 0) (k2 := 0) rfl).put hR.out 2 (.int .i64 ((m : Int) + 4)) (z2 := (m : Int) + 4) rfl)
              refine VF.close rfl hF3 hR.out (p := m + 4) hlen ?_ _ rfl rfl rfl
              rw [HO.out]
              exact ⟨rfl, rfl, leaf_at _ _ 0 m (m + 4)⟩
            · go_enter Tryd.func37, Tryd.ntmps37
              go_wp2_with (first
                | (go_at_call 55; refine (N1.out _ F1.out.mv.r).mono ?_; rintro e w2 ⟨rfl, M1⟩; have F2 := Aside0.mk (F1.out.moved hR.out M1); obtain ⟨⟨g0, g1, g2, g3, g4, gf⟩, ⟨r0, r1, r2, r3, r4, rf⟩, s0, s1, s2, s3⟩ := F2.out.facts)
                | (go_at_call 50; refine (HC.out _ F0.out.mv.r).mono ?_; rintro e w1 ⟨rfl, n, rfl⟩; have F1 := Aside0.mk (F0.out.drewN n)))
              (try simp only [Exit.inBlock, Exit.then])
              have hF3 := ((F2.out.put hR.out 0 (.int .i64 0) (k2 := 0) rfl).put hR.out 2 (.int .i64 ((m : Int) + 4)) (z2 := (m : Int) + 4) rfl)
              refine VF.close rfl hF3 hR.out (p := m + 4) hlen ?_ _ rfl rfl rfl
              rw [HO.out]
              exact ⟨rfl, rfl, leaf_at _ _ 0 m (m + 4)⟩
          | false =>
            rw [h1] at N1 HO
            clear h1
            cases h1 : pre wfalse (rest S m) with
            | true =>
              have hlen : m + 5 ≤ S.size := by have := pre_len h1; rw [rest_len] at this; have h4 : wfalse.length = 5 := rfl; omega
              rw [h1] at N2 HO
              clear h1
              rcases hd2 with ⟨hd1, hd2⟩ | hd1
              · go_enter Tryd.func37, Tryd.ntmps37
                go_wp2_with (first
                  | (go_at_call 55; refine (N2.out _ F2.out.mv.r).mono ?_; rintro e w3 ⟨rfl, M2⟩; have F3 := Aside0.mk (F2.out.moved hR.out M2); obtain ⟨⟨g0, g1, g2, g3, g4, gf⟩, ⟨r0, r1, r2, r3, r4, rf⟩, s0, s1, s2, s3⟩ := F3.out.facts)
                  | (go_at_call 55; refine (N1.out _ F1.out.mv.r).mono ?_; rintro e w2 ⟨rfl, M1⟩; have F2 := Aside0.mk (F1.out.moved hR.out M1); obtain ⟨⟨g0, g1, g2, g3, g4, gf⟩, ⟨r0, r1, r2, r3, r4, rf⟩, s0, s1, s2, s3⟩ := F2.out.facts)
                  | (go_at_call 50; refine (HC.out _ F0.out.mv.r).mono ?_; rintro e w1 ⟨rfl, n, rfl⟩; have F1 := Aside0.mk (F0.out.drewN n)))
                (try simp only [Exit.inBlock, Exit.then])
                have hF3 := ((F3.out.put hR.out 0 (.int .i64 1) (k2 := 1) rfl).put hR.out 2 (.int .i64 ((m : Int) + 5)) (z2 := (m : Int) + 5) rfl)
                refine VF.close rfl hF3 hR.out (p := m + 5) hlen ?_ _ rfl rfl rfl
                rw [HO.out]
                exact ⟨rfl, rfl, leaf_at _ _ 1 m (m + 5)⟩
              · go_enter Tryd.func37, Tryd.ntmps37
                go_wp2_with (first
                  | (go_at_call 55; refine (N2.out _ F2.out.mv.r).mono ?_; rintro e w3 ⟨rfl, M2⟩; have F3 := Aside0.mk (F2.out.moved hR.out M2); obtain ⟨⟨g0, g1, g2, g3, g4, gf⟩, ⟨r0, r1, r2, r3, r4, rf⟩, s0, s1, s2, s3⟩ := F3.out.facts)
                  | (go_at_call 55; refine (N1.out _ F1.out.mv.r).mono ?_; rintro e w2 ⟨rfl, M1⟩; have F2 := Aside0.mk (F1.out.moved hR.out M1); obtain ⟨⟨g0, g1, g2, g3, g4, gf⟩, ⟨r0, r1, r2, r3, r4, rf⟩, s0, s1, s2, s3⟩ := F2.out.facts)
                  | (go_at_call 50; refine (HC.out _ F0.out.mv.r).mono ?_; rintro e w1 ⟨rfl, n, rfl⟩; have F1 := Aside0.mk (F0.out.drewN n)))
                (try simp only [Exit.inBlock, Exit.then])
                have hF3 := ((F3.out.put hR.out 0 (.int .i64 1) (k2 := 1) rfl).put hR.out 2 (.int .i64 ((m : Int) + 5)) (z2 := (m : Int) + 5) rfl)
                refine VF.close rfl hF3 hR.out (p := m + 5) hlen ?_ _ rfl rfl rfl
                rw [HO.out]
                exact ⟨rfl, rfl, leaf_at _ _ 1 m (m + 5)⟩
            | false =>
              rw [h1] at N2 HO
              clear h1
              cases h1 : pre wtrue (rest S m) with
              | true =>
                have hlen : m + 4 ≤ S.size := by have := pre_len h1; rw [rest_len] at this; have h4 : wtrue.length = 4 := rfl; omega
                rw [h1] at N3 HO
                clear h1
                rcases hd2 with ⟨hd1, hd2⟩ | hd1
                · go_enter Tryd.func37, Tryd.ntmps37
                  go_wp2_with (first
                    | (go_at_call 55; refine (N3.out _ F3.out.mv.r).mono ?_; rintro e w4 ⟨rfl, M3⟩; have F4 := Aside0.mk (F3.out.moved hR.out M3); obtain ⟨⟨g0, g1, g2, g3, g4, gf⟩, ⟨r0, r1, r2, r3, r4, rf⟩, s0, s1, s2, s3⟩ := F4.out.facts)
                    | (go_at_call 55; refine (N2.out _ F2.out.mv.r).mono ?_; rintro e w3 ⟨rfl, M2⟩; have F3 := Aside0.mk (F2.out.moved hR.out M2); obtain ⟨⟨g0, g1, g2, g3, g4, gf⟩, ⟨r0, r1, r2, r3, r4, rf⟩, s0, s1, s2, s3⟩ := F3.out.facts)
                    | (go_at_call 55; refine (N1.out _ F1.out.mv.r).mono ?_; rintro e w2 ⟨rfl, M1⟩; have F2 := Aside0.mk (F1.out.moved hR.out M1); obtain ⟨⟨g0, g1, g2, g3, g4, gf⟩, ⟨r0, r1, r2, r3, r4, rf⟩, s0, s1, s2, s3⟩ := F2.out.facts)
                    | (go_at_call 50; refine (HC.out _ F0.out.mv.r).mono ?_; rintro e w1 ⟨rfl, n, rfl⟩; have F1 := Aside0.mk (F0.out.drewN n)))
                  (try simp only [Exit.inBlock, Exit.then])
                  have hF3 := ((F4.out.put hR.out 0 (.int .i64 2) (k2 := 2) rfl).put hR.out 2 (.int .i64 ((m : Int) + 4)) (z2 := (m : Int) + 4) rfl)
                  refine VF.close rfl hF3 hR.out (p := m + 4) hlen ?_ _ rfl rfl rfl
                  rw [HO.out]
                  exact ⟨rfl, rfl, leaf_at _ _ 2 m (m + 4)⟩
                · go_enter Tryd.func37, Tryd.ntmps37
                  go_wp2_with (first
                    | (go_at_call 55; refine (N3.out _ F3.out.mv.r).mono ?_; rintro e w4 ⟨rfl, M3⟩; have F4 := Aside0.mk (F3.out.moved hR.out M3); obtain ⟨⟨g0, g1, g2, g3, g4, gf⟩, ⟨r0, r1, r2, r3, r4, rf⟩, s0, s1, s2, s3⟩ := F4.out.facts)
                    | (go_at_call 55; refine (N2.out _ F2.out.mv.r).mono ?_; rintro e w3 ⟨rfl, M2⟩; have F3 := Aside0.mk (F2.out.moved hR.out M2); obtain ⟨⟨g0, g1, g2, g3, g4, gf⟩, ⟨r0, r1, r2, r3, r4, rf⟩, s0, s1, s2, s3⟩ := F3.out.facts)
                    | (go_at_call 55; refine (N1.out _ F1.out.mv.r).mono ?_; rintro e w2 ⟨rfl, M1⟩; have F2 := Aside0.mk (F1.out.moved hR.out M1); obtain ⟨⟨g0, g1, g2, g3, g4, gf⟩, ⟨r0, r1, r2, r3, r4, rf⟩, s0, s1, s2, s3⟩ := F2.out.facts)
                    | (go_at_call 50; refine (HC.out _ F0.out.mv.r).mono ?_; rintro e w1 ⟨rfl, n, rfl⟩; have F1 := Aside0.mk (F0.out.drewN n)))
                  (try simp only [Exit.inBlock, Exit.then])
                  have hF3 := ((F4.out.put hR.out 0 (.int .i64 2) (k2 := 2) rfl).put hR.out 2 (.int .i64 ((m : Int) + 4)) (z2 := (m : Int) + 4) rfl)
                  refine VF.close rfl hF3 hR.out (p := m + 4) hlen ?_ _ rfl rfl rfl
                  rw [HO.out]
                  exact ⟨rfl, rfl, leaf_at _ _ 2 m (m + 4)⟩
              | false =>
                rw [h1] at N3 HO
                clear h1
                rcases hd2 with ⟨hd1, hd2⟩ | hd1
                · go_enter Tryd.func37, Tryd.ntmps37
                  go_wp2_with (first
                    | (go_at_call 55; refine (N3.out _ F3.out.mv.r).mono ?_; rintro e w4 ⟨rfl, M3⟩; have F4 := Aside0.mk (F3.out.moved hR.out M3); obtain ⟨⟨g0, g1, g2, g3, g4, gf⟩, ⟨r0, r1, r2, r3, r4, rf⟩, s0, s1, s2, s3⟩ := F4.out.facts)
                    | (go_at_call 55; refine (N2.out _ F2.out.mv.r).mono ?_; rintro e w3 ⟨rfl, M2⟩; have F3 := Aside0.mk (F2.out.moved hR.out M2); obtain ⟨⟨g0, g1, g2, g3, g4, gf⟩, ⟨r0, r1, r2, r3, r4, rf⟩, s0, s1, s2, s3⟩ := F3.out.facts)
                    | (go_at_call 55; refine (N1.out _ F1.out.mv.r).mono ?_; rintro e w2 ⟨rfl, M1⟩; have F2 := Aside0.mk (F1.out.moved hR.out M1); obtain ⟨⟨g0, g1, g2, g3, g4, gf⟩, ⟨r0, r1, r2, r3, r4, rf⟩, s0, s1, s2, s3⟩ := F2.out.facts)
                    | (go_at_call 50; refine (HC.out _ F0.out.mv.r).mono ?_; rintro e w1 ⟨rfl, n, rfl⟩; have F1 := Aside0.mk (F0.out.drewN n)))
                  (try simp only [Exit.inBlock, Exit.then])
                  have hF3 := (F4.out.put hR.out 2 (.int .i64 (m : Int)) (z2 := (m : Int)) rfl)
                  refine VF.close rfl hF3 hR.out (p := m) hm ?_ _ rfl rfl rfl
                  rw [HO.out]
                  exact rfl
                · go_enter Tryd.func37, Tryd.ntmps37
                  go_wp2_with (first
                    | (go_at_call 55; refine (N3.out _ F3.out.mv.r).mono ?_; rintro e w4 ⟨rfl, M3⟩; have F4 := Aside0.mk (F3.out.moved hR.out M3); obtain ⟨⟨g0, g1, g2, g3, g4, gf⟩, ⟨r0, r1, r2, r3, r4, rf⟩, s0, s1, s2, s3⟩ := F4.out.facts)
                    | (go_at_call 55; refine (N2.out _ F2.out.mv.r).mono ?_; rintro e w3 ⟨rfl, M2⟩; have F3 := Aside0.mk (F2.out.moved hR.out M2); obtain ⟨⟨g0, g1, g2, g3, g4, gf⟩, ⟨r0, r1, r2, r3, r4, rf⟩, s0, s1, s2, s3⟩ := F3.out.facts)
                    | (go_at_call 55; refine (N1.out _ F1.out.mv.r).mono ?_; rintro e w2 ⟨rfl, M1⟩; have F2 := Aside0.mk (F1.out.moved hR.out M1); obtain ⟨⟨g0, g1, g2, g3, g4, gf⟩, ⟨r0, r1, r2, r3, r4, rf⟩, s0, s1, s2, s3⟩ := F2.out.facts)
                    | (go_at_call 50; refine (HC.out _ F0.out.mv.r).mono ?_; rintro e w1 ⟨rfl, n, rfl⟩; have F1 := Aside0.mk (F0.out.drewN n)))
                  (try simp only [Exit.inBlock, Exit.then])
                  have hF3 := (F4.out.put hR.out 2 (.int .i64 (m : Int)) (z2 := (m : Int)) rfl)
                  refine VF.close rfl hF3 hR.out (p := m) hm ?_ _ rfl rfl rfl
                  rw [HO.out]
                  exact rfl
/-- The reference's reading of a value. -/
theorem value_calls (S : ByteArray) (R : Nat) (hs : S.size ≤ 2147483647) : ∀ (n m : Nat) (w : World), S.size - m ≤ n → RS w R S m → m ≤ S.size → Calls Tryd.prog 37 #[.pointer (some ⟨R, 0, none⟩)] w (ValA (V m (rest S m)) w R S m)
  | 0, m, w, hn, h, hm => value_step S R m w h hm hs (fun k W hk hk2 hr => by omega)
  | n + 1, m, w, hn, h, hm => value_step S R m w h hm hs (fun k W hk hk2 hr => value_calls S R hs n k W (by omega) hr hk2)
end Go.Proofs.YtpahejmkidhhhaaDoor.G
