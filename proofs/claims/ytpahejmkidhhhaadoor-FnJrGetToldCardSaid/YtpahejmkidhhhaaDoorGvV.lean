/- jsonparser's equalStr; Config.Get. -/
import Derived.Test.YtpahejmkidhhhaaDoorGvK
import Derived.Test.YtpahejmkidhhhaaDoorGvJs
namespace Go.Proofs.YtpahejmkidhhhaaDoor.G
set_option linter.unusedVariables false
set_option linter.unusedSimpArgs false
open Go.RowKit Go.Proofs.YtpahejmkidhhhaaDoorW.PrintWords

theorem str_eq {ku : List Int} (h : Bytes ku) (s : ByteArray) : ((strOfNums ku).toList == s.toList) = decide (ku = bytesOf s) := by
  have e := bytesOf_str h
  by_cases hk : ku = bytesOf s
  · rw [decide_eq_true hk]
    have : strOfNums ku = s := by
      have h2 : bytesOf (strOfNums ku) = bytesOf s := by rw [e, hk]
      exact bytesOf_inj h2
    rw [this]
    simp
  · rw [decide_eq_false hk]
    have : ¬ (strOfNums ku).toList = s.toList := by
      intro h2
      rw [ByteArray.toList_eq, ByteArray.toList_eq] at h2
      have h3 : bytesOf (strOfNums ku) = bytesOf s := by unfold bytesOf; rw [h2]
      exact hk (e.symm.trans h3)
    simpa using this
set_option maxHeartbeats 4000000 in
set_option maxRecDepth 100000 in
theorem eqs_calls (X g g0 L cap : Nat) (ku : List Int) (s : ByteArray) (w : World) (hc : w.cell? ⟨X, 0, none⟩ = some (.slice (some ⟨g, g0, none⟩) L cap)) (H : RowAt w g g0 ku) (hby : Bytes ku) (hl : ku.length = L) :
    Calls Tryd.prog 79 #[.pointer (some ⟨X, 0, none⟩), .string s] w (fun e w' => e = .returned (.bool (decide (ku = bytesOf s))) ∧ w' = w) := by
  have hcv := H.string (n := L) (c := cap) hl
  have HB := Aside0.mk hby
  clear H hby hl
  go_enter Tryd.func79, Tryd.ntmps79
  go_wp2
  go_ret
  refine ⟨?_, rfl⟩
  rw [← str_eq HB.out]
  rfl
set_option maxHeartbeats 4000000 in
set_option maxRecDepth 100000 in
theorem cget_calls (E : Nat → Value) (g : Ig) (h o : Nat) (d k : Value) (w : World)
    (hI : ∀ W, Below w.heap.size w W → Calls Tryd.prog 49 #[.agg #[.bool false, .bool false, .int .i64 0], d, k] W (IGA E g h o W)) : Calls Tryd.prog 83 #[.agg #[.bool false, .bool false, .int .i64 0], d, k] w (GetA E g h o w) := by
  have hB0 : Below w.heap.size w (w.alloc (.cells #[.bool false, .bool false, .int .i64 0] 90)) := below_alloc1 _
  have HB0 := Aside0.mk hB0
  have C := Aside0.mk (hI _ hB0)
  have HC := Aside0.mk (cfg_new w 90)
  have g0 := HC.out.2.1
  have g1 := HC.out.2.2.1
  have g2 := HC.out.2.2.2
  clear hI hB0
  go_enter Tryd.func83, Tryd.ntmps83
  go_wp2_with (go_at_call 49; refine C.out.mono ?_; rintro e w1 ⟨v, x, rfl, hb, hA⟩)
  (try simp only [Exit.inBlock, Exit.then])
  refine bodyPost_ret (results_tmp4 rfl _ _ _) rfl ?_
  exact ⟨v, x, rfl, below_step HB0.out hb, hA⟩
end Go.Proofs.YtpahejmkidhhhaaDoor.G
