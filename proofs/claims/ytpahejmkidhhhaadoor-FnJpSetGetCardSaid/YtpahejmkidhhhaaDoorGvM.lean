/- What the laws hold against a place: jpKind, Raw, jpTold. -/
import Derived.Test.YtpahejmkidhhhaaDoorGvK
import Derived.Test.YtpahejmkidhhhaaDoorGrP
namespace Go.Proofs.YtpahejmkidhhhaaDoor.G
set_option linter.unusedVariables false
set_option linter.unusedSimpArgs false
open Go.RowKit Go.Proofs.YtpahejmkidhhhaaDoorW.PrintWords

set_option maxHeartbeats 4000000 in
set_option maxRecDepth 100000 in
theorem jpKind_calls (k : Nat) (hk : k ≤ 6) (w : World) : Calls Tryd.prog 22 #[.int .i64 (k : Int)] w (fun e w' => e = .returned (.int .i64 (jk k)) ∧ w' = w) := by
  have : k = 0 ∨ k = 1 ∨ k = 2 ∨ k = 3 ∨ k = 4 ∨ k = 5 ∨ k = 6 := by omega
  rcases this with rfl | rfl | rfl | rfl | rfl | rfl | rfl
  all_goals
    go_enter Tryd.func22, Tryd.ntmps22
    go_wp2
    go_ret
    exact ⟨rfl, rfl⟩
/-- The text of a place. -/
def rawS (S : ByteArray) (k b e : Nat) : ByteArray := if k = 4 then S.extract (b + 1) (e - 1) else S.extract b e
theorem box27 (w : World) (k b e nv kv : Value) : (w.alloc (.cells #[k, b, e, nv, kv] 27)).heap[w.heap.size]? = some (.cells #[k, b, e, nv, kv] 27) := heap_alloc_new _ _
set_option maxHeartbeats 4000000 in
set_option maxRecDepth 100000 in
theorem raw_calls (S : ByteArray) (k b e : Nat) (nv kv : Value) (w : World) (hS : S.size ≤ 140737488351232) (hbe : b ≤ e) (he : e ≤ S.size) (h4 : k = 4 → b + 2 ≤ e) (hnv : ∃ a n c, nv = .slice a n c) (hkv : ∃ a n c, kv = .slice a n c) :
    Calls Tryd.prog 23 #[.string S, .agg #[.int .i64 (k : Int), .int .i64 (b : Int), .int .i64 (e : Int), nv, kv]] w (fun en w' => en = .returned (.string (rawS S k b e)) ∧ Below w.heap.size w w') := by
  obtain ⟨na, nn, nc, rfl⟩ := hnv
  obtain ⟨ka, kn, kc, rfl⟩ := hkv
  have hb := box27 w (.int .i64 (k : Int)) (.int .i64 (b : Int)) (.int .i64 (e : Int)) (.slice na nn nc) (.slice ka kn kc)
  have r0 := blk_cell (j := 0) hb rfl
  have r1 := blk_cell (j := 1) hb rfl
  have r2 := blk_cell (j := 2) hb rfl
  clear hb
  rcases Decidable.em (k = 4) with hk | hk
  · have hr : Aside0 (rawS S k b e = S.extract (b + 1) (e - 1)) := ⟨by unfold rawS; rw [if_pos hk]⟩
    have h4 := h4 hk
    obtain ⟨d, rfl⟩ : ∃ d, e = d + 1 := ⟨e - 1, by omega⟩
    subst hk
    have hbd : b + 1 ≤ d := by omega
    go_enter Tryd.func23, Tryd.ntmps23
    go_wp2
    go_ret
    refine ⟨?_, below_alloc1 _⟩
    rw [hr.out]; rfl
  · have hr : Aside0 (rawS S k b e = S.extract b e) := ⟨by unfold rawS; rw [if_neg hk]⟩
    have hkb : ((k : Int) == 4) = false := by simp; omega
    clear hk h4
    go_enter Tryd.func23, Tryd.ntmps23
    go_wp2
    go_ret
    refine ⟨?_, below_alloc1 _⟩
    rw [hr.out]; rfl
set_option maxHeartbeats 4000000 in
set_option maxRecDepth 100000 in
theorem told_calls (S : ByteArray) (k b e : Nat) (nv kv : Value) (key : ByteArray) (w : World) (hS : S.size ≤ 140737488351232) (hk6 : k ≤ 6) (hbe : b ≤ e) (he : e ≤ S.size) (h4 : k = 4 → b + 2 ≤ e) (hnv : ∃ a n c, nv = .slice a n c) (hkv : ∃ a n c, kv = .slice a n c) :
    Calls Tryd.prog 13 #[.agg #[.string key, .string (rawS S k b e), .int .i64 (jk k), .int .i64 (e : Int)], .string S, .agg #[.int .i64 (k : Int), .int .i64 (b : Int), .int .i64 (e : Int), nv, kv]] w (fun en w' => en = .returned (.bool true) ∧ Below w.heap.size w w') := by
  have CK := Aside0.mk (jpKind_calls k hk6)
  have CR := Aside0.mk (fun W => raw_calls S k b e nv kv W hS hbe he h4 hnv hkv)
  obtain ⟨na, nn, nc, rfl⟩ := hnv
  obtain ⟨ka, kn, kc, rfl⟩ := hkv
  have hb1 := heap_alloc_new w (.cells #[.string key, .string (rawS S k b e), .int .i64 (jk k), .int .i64 (e : Int)] 31)
  have hb2 := box27 (w.alloc (.cells #[.string key, .string (rawS S k b e), .int .i64 (jk k), .int .i64 (e : Int)] 31)) (.int .i64 (k : Int)) (.int .i64 (b : Int)) (.int .i64 (e : Int)) (.slice na nn nc) (.slice ka kn kc)
  rw [World.size_alloc] at hb2
  have hb3 : ((w.alloc (.cells #[.string key, .string (rawS S k b e), .int .i64 (jk k), .int .i64 (e : Int)] 31)).alloc (.cells #[.int .i64 (k : Int), .int .i64 (b : Int), .int .i64 (e : Int), .slice na nn nc, .slice ka kn kc] 27)).heap[w.heap.size]? = some (.cells #[.string key, .string (rawS S k b e), .int .i64 (jk k), .int .i64 (e : Int)] 31) := by
    rw [Below.heap_alloc _ _ _ (by rw [World.size_alloc]; omega)]; exact hb1
  obtain ⟨W2, hW2⟩ : ∃ W2, W2 = ((w.alloc (.cells #[.string key, .string (rawS S k b e), .int .i64 (jk k), .int .i64 (e : Int)] 31)).alloc (.cells #[.int .i64 (k : Int), .int .i64 (b : Int), .int .i64 (e : Int), .slice na nn nc, .slice ka kn kc] 27)) := ⟨_, rfl⟩
  have hsz : W2.heap.size = w.heap.size + 2 := by rw [hW2, World.size_alloc, World.size_alloc]
  rw [← hW2] at hb2 hb3
  have HQ : ∀ W, Below W2.heap.size W2 W → (W.cell? ⟨w.heap.size, 1, none⟩ = some (.string (rawS S k b e)) ∧ W.cell? ⟨w.heap.size, 2, none⟩ = some (.int .i64 (jk k)) ∧ W.cell? ⟨w.heap.size, 3, none⟩ = some (.int .i64 (e : Int))) ∧
      (W.cell? ⟨w.heap.size + 1, 0, none⟩ = some (.int .i64 (k : Int)) ∧ W.cell? ⟨w.heap.size + 1, 1, none⟩ = some (.int .i64 (b : Int)) ∧ W.cell? ⟨w.heap.size + 1, 2, none⟩ = some (.int .i64 (e : Int)) ∧ W.cell? ⟨w.heap.size + 1, 3, none⟩ = some (.slice na nn nc) ∧ W.cell? ⟨w.heap.size + 1, 4, none⟩ = some (.slice ka kn kc)) := fun W hb => by
    have h3 : W.heap[w.heap.size]? = some _ := (hb.block _ (by omega)).trans hb3
    have h2 : W.heap[w.heap.size + 1]? = some _ := (hb.block _ (by omega)).trans hb2
    exact ⟨⟨blk_cell h3 rfl, blk_cell h3 rfl, blk_cell h3 rfl⟩, blk_cell h2 rfl, blk_cell h2 rfl, blk_cell h2 rfl, blk_cell h2 rfl, blk_cell h2 rfl⟩
  have hbw : Below w.heap.size w W2 := by rw [hW2]; exact ((below_alloc1 _).alloc (by rw [World.size_alloc]; omega) _)
  have HQ := Aside0.mk HQ
  have HBW := Aside0.mk hbw
  obtain ⟨⟨q1, q2, q3⟩, r0, r1, r2, r3, r4⟩ := HQ.out W2 (Below.refl _ _)
  subst hW2
  clear hb1 hb2 hb3 hbw hsz
  go_enter Tryd.func13, Tryd.ntmps13
  go_upto_region 1 with fail
  go_region_with (first | (go_at_call 22; refine (CK.out _).mono ?_; rintro en w1 ⟨rfl, rfl⟩) | (go_at_call 23; refine (CR.out _).mono ?_; rintro en w1 ⟨rfl, hb⟩; (first | (have hb' := Aside0.mk (HQ.out w1 (below_step (Below.refl _ _) hb))) | (have hb' := Aside0.mk (HQ.out w1 (below_step (Below.refl _ _).drew hb))) | (have hb' := Aside0.mk (HQ.out w1 (below_step (Below.refl _ _).drew.drew hb)))); obtain ⟨⟨p1, p2, p3⟩, s0, s1, s2, s3, s4⟩ := hb'.out))
  all_goals go_wp2_with fail
  all_goals go_ret
  all_goals first
    | exact ⟨rfl, below_step HBW.out hb⟩
    | exact ⟨rfl, below_step HBW.out.drew hb⟩
    | exact ⟨rfl, below_step HBW.out.drew.drew hb⟩
end Go.Proofs.YtpahejmkidhhhaaDoor.G
