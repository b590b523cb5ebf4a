/- The reference's Places: the tree of places of a JSON text. -/
import Derived.Test.YtpahejmkidhhhaaDoorGrV
namespace Go.Proofs.YtpahejmkidhhhaaDoor.G
set_option linter.unusedVariables false
set_option linter.unusedSimpArgs false
open Go.RowKit Go.Proofs.YtpahejmkidhhhaaDoorW.PrintWords

def PlcA (o : Option Pl) (w : World) (e : Ending) (w' : World) : Prop :=
  ∃ (k b z : Int) (na : Option Addr) (nn nc : Nat) (ka : Option Addr) (kn kc : Nat) (ok : Bool),
    e = .returned (.tuple #[.agg #[.int .i64 k, .int .i64 b, .int .i64 z, .slice na nn nc, .slice ka kn kc], .bool ok]) ∧ Below w.heap.size w w' ∧
    Aside0 (match o with | none => ok = false | some t => ok = true ∧ PlAt w' (From w.heap.size) t [.int .i64 k, .int .i64 b, .int .i64 z, .slice na nn nc, .slice ka kn kc])
def Z33 : Obj := .cells #[.int .i64 0, .int .i64 0, .int .i64 0, .slice none 0 0, .slice none 0 0] 27
/-- The result's block, the reader's. -/
structure PF (w W : World) (S : ByteArray) (m : Nat) : Prop where
  mv : Mv ((w.alloc (.cells #[.int .i64 0, .int .i64 0, .int .i64 0, .slice none 0 0, .slice none 0 0] 27)).alloc (.cells #[.string S, .int .i64 0] 74)) W (w.heap.size + 1) S m
theorem PF.start (w : World) (S : ByteArray) : PF w ((w.alloc (.cells #[.int .i64 0, .int .i64 0, .int .i64 0, .slice none 0 0, .slice none 0 0] 27)).alloc (.cells #[.string S, .int .i64 0] 74)) S 0 := by
  have hb := heap_alloc_new (w.alloc (.cells #[.int .i64 0, .int .i64 0, .int .i64 0, .slice none 0 0, .slice none 0 0] 27)) (.cells #[.string S, .int .i64 0] 74)
  rw [World.size_alloc] at hb
  exact ⟨RS.same ⟨by rw [World.size_alloc, World.size_alloc]; omega, blk_cell hb rfl, blk_cell hb rfl, blk_froz hb⟩⟩
theorem PF.moved {w W W2 : World} {S : ByteArray} {m p : Nat} (h : PF w W S m) (hM : Mv W W2 (w.heap.size + 1) S p) : PF w W2 S p := ⟨h.mv.trans hM⟩
theorem PF.alloc {w W : World} {S : ByteArray} {m : Nat} (h : PF w W S m) (o : Obj) : PF w (W.alloc o) S m := ⟨h.mv.alloc (by rw [World.size_alloc, World.size_alloc]; omega) o⟩
theorem PF.room {w W : World} {S : ByteArray} {m : Nat} (h : PF w W S m) : w.heap.size + 2 ≤ W.heap.size := by have := h.mv.lt; rw [World.size_alloc, World.size_alloc] at this; omega
theorem PF.res {w W : World} {S : ByteArray} {m : Nat} (h : PF w W S m) : W.heap[w.heap.size]? = some (.cells #[.int .i64 0, .int .i64 0, .int .i64 0, .slice none 0 0, .slice none 0 0] 27) := by
  rw [h.mv.g.block w.heap.size (by rw [World.size_alloc, World.size_alloc]; omega) (by intro e; simp at e), Below.heap_alloc _ _ _ (by rw [World.size_alloc]; omega)]
  exact heap_alloc_new _ _
theorem PF.below {w W : World} {S : ByteArray} {m : Nat} (h : PF w W S m) : Below w.heap.size w W := by
  have b0 := ((Below.refl w.heap.size w).alloc (Nat.le_refl _) (.cells #[.int .i64 0, .int .i64 0, .int .i64 0, .slice none 0 0, .slice none 0 0] 27)).alloc (by rw [World.size_alloc]; omega) (.cells #[.string S, .int .i64 0] 74)
  exact b0.grown h.mv.g (by rw [World.size_alloc, World.size_alloc]; omega) (fun k hk => by cases hk; omega)
theorem PF.facts {w W : World} {S : ByteArray} {m : Nat} (h : PF w W S m) :
    (W.cell? ⟨w.heap.size, 0, none⟩ = some (.int .i64 0) ∧ W.cell? ⟨w.heap.size, 1, none⟩ = some (.int .i64 0) ∧ W.cell? ⟨w.heap.size, 2, none⟩ = some (.int .i64 0) ∧ W.cell? ⟨w.heap.size, 3, none⟩ = some (.slice none 0 0) ∧ W.cell? ⟨w.heap.size, 4, none⟩ = some (.slice none 0 0) ∧ (∀ j, W.frozen? ⟨w.heap.size, j, none⟩ = false)) ∧
    (w.heap.size + 1 < W.heap.size ∧ W.cell? ⟨w.heap.size + 1, 0, none⟩ = some (.string S) ∧ W.cell? ⟨w.heap.size + 1, 1, none⟩ = some (.int .i64 m) ∧ W.frozen? ⟨w.heap.size + 1, 1, none⟩ = false) :=
  ⟨⟨blk_cell h.res rfl, blk_cell h.res rfl, blk_cell h.res rfl, blk_cell h.res rfl, blk_cell h.res rfl, fun j => blk_froz h.res⟩, h.mv.r.lt, h.mv.r.c0, h.mv.r.c1, h.mv.r.fz⟩
/-- The end: the result's block is written. -/
theorem PF.close {fn : Func} (hfn : fn.results = #[.cell 2 27, .tmp 3]) {w W : World} {S : ByteArray} {m : Nat} (h : PF w W S m) {k b z : Int} {na : Option Addr} {nn nc : Nat} {ka : Option Addr} {kn kc : Nat} {ok : Bool} {o : Option Pl}
    (hA : match o with | none => ok = false | some t => ok = true ∧ PlAt W (From (w.heap.size + 2)) t [.int .i64 k, .int .i64 b, .int .i64 z, .slice na nn nc, .slice ka kn kc])
    (a : Act) (h2 : a.tmps.getD 2 undef = .pointer (some ⟨w.heap.size, 0, none⟩)) (h3 : a.tmps.getD 3 undef = .bool ok) (hd : a.defers = []) :
    bodyPost Tryd.prog fn (PlcA o w) .ret a (((((W.setCell ⟨w.heap.size, 0, none⟩ (.int .i64 k)).setCell ⟨w.heap.size, 1, none⟩ (.int .i64 b)).setCell ⟨w.heap.size, 2, none⟩ (.int .i64 z)).setCell ⟨w.heap.size, 3, none⟩ (.slice na nn nc)).setCell ⟨w.heap.size, 4, none⟩ (.slice ka kn kc)) := by
  have e0 := res_put (j := 0) (v := .int .i64 k) h.res rfl
  have e1 := res_put (j := 1) (v := .int .i64 b) e0 rfl
  have e2 := res_put (j := 2) (v := .int .i64 z) e1 rfl
  have e3 := res_put (j := 3) (v := .slice na nn nc) e2 rfl
  have e4 := res_put (j := 4) (v := .slice ka kn kc) e3 rfl
  have gs : ∀ (V : World) (j : Nat) (v : Value), V.grownBy (V.setCell ⟨w.heap.size, j, none⟩ v) (some w.heap.size) := fun V j v => ⟨rfl, rfl, rfl, by simp [World.setCell], fun i hi hn => Below.heap_setCell _ _ _ _ (by intro e; exact hn (by rw [e]))⟩
  have hg := ((((gs W 0 (.int .i64 k)).trans (gs _ 1 (.int .i64 b))).trans (gs _ 2 (.int .i64 z))).trans (gs _ 3 (.slice na nn nc))).trans (gs _ 4 (.slice ka kn kc))
  refine bodyPost_ret (value_ret hfn h2 h3 e4 rfl) hd ⟨k, b, z, na, nn, nc, ka, kn, kc, ok, rfl, h.below.grown hg (by have := h.room; omega) (fun j hj => by cases hj; omega), ⟨?_⟩⟩
  cases o with
  | none => exact hA
  | some t =>
    obtain ⟨a1, a3⟩ := hA
    refine ⟨a1, PlAt.mono (fun g _ hF => ?_) (PlAt.kept (fun g hgl hF => hg.block g hgl (by intro e; cases e; unfold From at hF; omega)) a3)⟩
    unfold From at hF ⊢; omega
/-- Behind the blanks: the place's own block, and its tree. -/
theorem pblk {w w1 w2 w3 : World} {p q : Nat} {S : ByteArray} {k b z nv kv : Value} {t : Pl} {cs : List Value} (hM : Mv (w2.alloc (.cells #[k, b, z, nv, kv] 27)) w3 (w.heap.size + 1) S q) (ht : PlAt w2 (From w1.heap.size) t cs) (h1 : w.heap.size + 2 ≤ w1.heap.size) (h2 : w.heap.size + 2 ≤ w2.heap.size) :
    (w3.cell? ⟨w2.heap.size, 0, none⟩ = some k ∧ w3.cell? ⟨w2.heap.size, 1, none⟩ = some b ∧ w3.cell? ⟨w2.heap.size, 2, none⟩ = some z ∧ w3.cell? ⟨w2.heap.size, 3, none⟩ = some nv ∧ w3.cell? ⟨w2.heap.size, 4, none⟩ = some kv) ∧ PlAt w3 (From (w.heap.size + 2)) t cs := by
  have hb : w3.heap[w2.heap.size]? = some (.cells #[k, b, z, nv, kv] 27) := by
    rw [hM.g.block w2.heap.size (by rw [World.size_alloc]; omega) (by intro e; have e' := Option.some.inj e; omega)]
    exact heap_alloc_new _ _
  refine ⟨⟨blk_cell hb rfl, blk_cell hb rfl, blk_cell hb rfl, blk_cell hb rfl, blk_cell hb rfl⟩, ?_⟩
  have a1 : PlAt (w2.alloc (.cells #[k, b, z, nv, kv] 27)) (From w1.heap.size) t cs := al_kept ht
  exact PlAt.mono (fun g _ hF => Nat.le_trans h1 hF) (PlAt.kept (fun g hg hF => hM.g.block g hg (by intro e; have e' := Option.some.inj e; have hF' : w1.heap.size ≤ g := hF; omega)) a1)
/-- The end where nothing was read. -/
theorem PF.close0 {fn : Func} (hfn : fn.results = #[.cell 2 27, .tmp 3]) {w W : World} {S : ByteArray} {m : Nat} (h : PF w W S m) {ok : Bool} (hok : ok = false) {ob : Obj}
    (a : Act) (h2 : a.tmps.getD 2 undef = .pointer (some ⟨w.heap.size, 0, none⟩)) (h3 : a.tmps.getD 3 undef = .bool ok) (hd : a.defers = []) :
    bodyPost Tryd.prog fn (PlcA none w) .ret a ((((((W.setCell ⟨w.heap.size, 0, none⟩ (.int .i64 0)).setCell ⟨w.heap.size, 1, none⟩ (.int .i64 0)).setCell ⟨w.heap.size, 2, none⟩ (.int .i64 0)).setCell ⟨w.heap.size, 3, none⟩ (.slice none 0 0)).setCell ⟨w.heap.size, 4, none⟩ (.slice none 0 0)).alloc ob) := by
  have e0 := res_put (j := 0) (v := .int .i64 0) h.res rfl
  have e1 := res_put (j := 1) (v := .int .i64 0) e0 rfl
  have e2 := res_put (j := 2) (v := .int .i64 0) e1 rfl
  have e3 := res_put (j := 3) (v := .slice none 0 0) e2 rfl
  have e4 := res_put (j := 4) (v := .slice none 0 0) e3 rfl
  have gs : ∀ (V : World) (j : Nat) (v : Value), V.grownBy (V.setCell ⟨w.heap.size, j, none⟩ v) (some w.heap.size) := fun V j v => ⟨rfl, rfl, rfl, by simp [World.setCell], fun i hi hn => Below.heap_setCell _ _ _ _ (by intro e; exact hn (by rw [e]))⟩
  have hg := ((((gs W 0 (.int .i64 0)).trans (gs _ 1 (.int .i64 0))).trans (gs _ 2 (.int .i64 0))).trans (gs _ 3 (.slice none 0 0))).trans (gs _ 4 (.slice none 0 0))
  have hr := h.room
  have e5 : ((((((W.setCell ⟨w.heap.size, 0, none⟩ (.int .i64 0)).setCell ⟨w.heap.size, 1, none⟩ (.int .i64 0)).setCell ⟨w.heap.size, 2, none⟩ (.int .i64 0)).setCell ⟨w.heap.size, 3, none⟩ (.slice none 0 0)).setCell ⟨w.heap.size, 4, none⟩ (.slice none 0 0)).alloc ob).heap[w.heap.size]? = some (.cells #[.int .i64 0, .int .i64 0, .int .i64 0, .slice none 0 0, .slice none 0 0] 27) := by
    rw [Below.heap_alloc _ _ _ (by have := hg.size; omega)]; exact e4
  refine bodyPost_ret (value_ret hfn h2 h3 e5 rfl) hd ⟨0, 0, 0, none, 0, 0, none, 0, 0, ok, rfl, (h.below.grown hg (by omega) (fun j hj => by cases hj; omega)).alloc (by have := hg.size; omega) _, ⟨hok⟩⟩
theorem rest0 (S : ByteArray) : rest S 0 = bytesOf S := rfl
theorem bytes_len (S : ByteArray) : (bytesOf S).length = S.size := by unfold bytesOf; simp
theorem J_none {S : ByteArray} {b : Nat} (hb : b = bl (rest S 0)) (hv : V b (rest S b) = none) : J (bytesOf S) = none := by
  unfold J; rw [← rest0, ← hb, rest_drop, Nat.zero_add, hv]
theorem J_some {S : ByteArray} {b p q j : Nat} {t : Pl} (hb : b = bl (rest S 0)) (hv : V b (rest S b) = some (t, j)) (hp : p = b + j) (hq : q = p + bl (rest S p)) : J (bytesOf S) = if q = S.size then some t else none := by
  unfold J; rw [← rest0, ← hb, rest_drop, Nat.zero_add, hv]
  simp only [rest_drop, rest_len, Nat.zero_add]
  rw [← hp, ← hq, Nat.sub_zero]
set_option maxHeartbeats 8000000 in
set_option maxRecDepth 100000 in
theorem places_calls (S : ByteArray) (w : World) (hs : S.size ≤ 2147483647) : Calls Tryd.prog 27 #[.string S] w (PlcA (J (bytesOf S)) w) := by
  have hs2 : S.size ≤ 140737488351232 := by omega
  have P0 := Aside0.mk (PF.start w S)
  have HB := Aside0.mk (fun k W (hk : RS W (w.heap.size + 1) S k) (hk2 : k ≤ S.size) => blanks_calls S (w.heap.size + 1) k W hk hk2 hs2)
  obtain ⟨b, hb⟩ : ∃ b, b = bl (rest S 0) := ⟨_, rfl⟩
  have hbs : b ≤ S.size := by have := bl_le (rest S 0); rw [rest_len] at this; omega
  have CB := Aside0.mk (HB.out 0 _ P0.out.mv.r (Nat.zero_le _))
  rw [← hb, Nat.zero_add] at CB
  have CV := Aside0.mk (fun W (hk : RS W (w.heap.size + 1) S b) => value_calls S (w.heap.size + 1) hs _ b W (Nat.le_refl _) hk hbs)
  cases hv : V b (rest S b) with
  | none =>
    have HJ := Aside0.mk (J_none hb hv)
    rw [hv] at CV
    clear hb hv
    go_enter Tryd.func27, Tryd.ntmps27
    go_wp2_with (first
      | (go_at_call 37; refine (CV.out _ P1.out.mv.r).mono ?_; rintro e w2 ⟨k, bb, z, na, nn, nc, ka, kn, kc, ok, p, rfl, M2, hp, hA⟩; obtain rfl : ok = false := hA.out; clear hA; have P2 := Aside0.mk (P1.out.moved M2); obtain ⟨⟨r0, r1, r2, r3, r4, rf⟩, s0, s1, s2, s3⟩ := P2.out.facts; have hlw : w.heap.size < w2.heap.size := (by omega))
      | (go_at_call 36; refine CB.out.mono ?_; rintro e w1 ⟨rfl, M1⟩; have P1 := Aside0.mk (P0.out.moved M1)))
    (try simp only [Exit.inBlock, Exit.then])
    rw [HJ.out]
    exact PF.close0 rfl P2.out rfl _ rfl rfl rfl
  | some tj =>
    obtain ⟨t, j⟩ := tj
    rw [hv] at CV
    obtain ⟨p, hp⟩ : ∃ p, p = b + j := ⟨_, rfl⟩
    have hj := V_le hv
    rw [rest_len] at hj
    have hps : p ≤ S.size := by omega
    obtain ⟨q, hq⟩ : ∃ q, q = p + bl (rest S p) := ⟨_, rfl⟩
    have HJ := Aside0.mk (J_some hb hv hp hq)
    have hqs : q ≤ S.size := by have := bl_le (rest S p); rw [rest_len] at this; omega
    have CQ := Aside0.mk (fun W (hk : RS W (w.heap.size + 1) S p) => HB.out p W hk hps)
    rw [← hq] at CQ
    have HP := Aside0.mk hp
    clear hb hv hp hq hj
    by_cases hqe : q = S.size
    · subst hqe
      go_enter Tryd.func27, Tryd.ntmps27
      go_wp2_with (first
        | (go_at_call 36; refine (CQ.out _ (P2.out.alloc _).mv.r).mono ?_; rintro e w3 ⟨rfl, M3⟩; have P3 := Aside0.mk ((P2.out.alloc _).moved M3); obtain ⟨⟨g0, g1, g2, g3, g4⟩, hV3⟩ := pblk (p := 0) M3 hV.out P1.out.room P2.out.room; have hV3 := Aside0.mk hV3; obtain ⟨⟨r0, r1, r2, r3, r4, rf⟩, s0, s1, s2, s3⟩ := P3.out.facts)
        | (go_at_call 37; refine (CV.out _ P1.out.mv.r).mono ?_; rintro e w2 ⟨k, bb, z, na, nn, nc, ka, kn, kc, ok, p', rfl, M2, hp', hA⟩; obtain ⟨rfl, hpe, hV⟩ := hA.out; obtain rfl : p' = p := (by have := HP.out; omega); have hV := Aside0.mk hV; clear hA hpe; have P2 := Aside0.mk (P1.out.moved M2); obtain ⟨⟨r0, r1, r2, r3, r4, rf⟩, s0, s1, s2, s3⟩ := P2.out.facts; have hlw : w.heap.size < w2.heap.size := (by omega))
        | (go_at_call 36; refine CB.out.mono ?_; rintro e w1 ⟨rfl, M1⟩; have P1 := Aside0.mk (P0.out.moved M1)))
      (try simp only [Exit.inBlock, Exit.then])
      refine PF.close rfl P3.out ?_ _ rfl rfl rfl
      rw [HJ.out]
      simp only [if_true]
      exact ⟨trivial, hV3.out⟩
    · have hqb : ((q : Int) != (S.size : Int)) = true := by simp; omega
      have HQ := Aside0.mk hqe
      clear hqe
      go_enter Tryd.func27, Tryd.ntmps27
      go_wp2_with (first
        | (go_at_call 36; refine (CQ.out _ (P2.out.alloc _).mv.r).mono ?_; rintro e w3 ⟨rfl, M3⟩; have P3 := Aside0.mk ((P2.out.alloc _).moved M3); obtain ⟨⟨g0, g1, g2, g3, g4⟩, hV3⟩ := pblk (p := 0) M3 hV.out P1.out.room P2.out.room; have hV3 := Aside0.mk hV3; obtain ⟨⟨r0, r1, r2, r3, r4, rf⟩, s0, s1, s2, s3⟩ := P3.out.facts)
        | (go_at_call 37; refine (CV.out _ P1.out.mv.r).mono ?_; rintro e w2 ⟨k, bb, z, na, nn, nc, ka, kn, kc, ok, p', rfl, M2, hp', hA⟩; obtain ⟨rfl, hpe, hV⟩ := hA.out; obtain rfl : p' = p := (by have := HP.out; omega); have hV := Aside0.mk hV; clear hA hpe; have P2 := Aside0.mk (P1.out.moved M2); obtain ⟨⟨r0, r1, r2, r3, r4, rf⟩, s0, s1, s2, s3⟩ := P2.out.facts; have hlw : w.heap.size < w2.heap.size := (by omega))
        | (go_at_call 36; refine CB.out.mono ?_; rintro e w1 ⟨rfl, M1⟩; have P1 := Aside0.mk (P0.out.moved M1)))
      (try simp only [Exit.inBlock, Exit.then])
      refine PF.close rfl P3.out ?_ _ rfl rfl rfl
      rw [HJ.out, if_neg HQ.out]
end Go.Proofs.YtpahejmkidhhhaaDoor.G
