/- The laws' own guards on sizes. -/
import Derived.Test.YtmomjgkbimeeoaaGvTd
namespace Go.Proofs.Ytmomjgkbimeeoaa.G
set_option linter.unusedVariables false
set_option linter.unusedSimpArgs false
open Go.RowKit Go.Proofs.YtmomjgkbimeeoaaW.PrintWords

/-- A slice of strings lies there. -/
def StrsAt (w : World) (kA : Option Addr) (ks : List ByteArray) : Prop := ∀ i, i < ks.length → ∃ g o, kA = some ⟨g, o, none⟩ ∧ g < w.heap.size ∧ w.cell? ⟨g, o + i, none⟩ = some (.string (ks.getD i noStr))
theorem StrsAt.below {w w' : World} {kA : Option Addr} {ks : List ByteArray} (h : StrsAt w kA ks) (hb : Below w.heap.size w w') : StrsAt w' kA ks := fun i hi => by
  obtain ⟨g, o, e, hl, hc⟩ := h i hi
  exact ⟨g, o, e, Nat.lt_of_lt_of_le hl hb.size, by rw [hb.cell (p := ⟨g, o + i, none⟩) hl]; exact hc⟩
set_option maxHeartbeats 4000000 in
set_option maxRecDepth 100000 in
theorem fits1_calls (ks : List ByteArray) (kA : Option Addr) (kc : Nat) (w : World) (hN : ks.length ≤ 140737488351232) (h : StrsAt w kA ks) : Calls Try.prog 8 #[.slice kA ks.length kc] w (BoolA (ks.length ≤ 2147483647) w) := by
  have H := Aside0.mk h
  clear h
  by_cases hbig : 2147483647 < ks.length
  · go_enter Try.func8, Try.ntmps8
    go_wp2_with fail
    go_ret
    exact ⟨false, rfl, Below.refl _ _, ⟨fun h => by cases h⟩⟩
  · go_enter Try.func8, Try.ntmps8
    go_wp2_with fail
    go_loop [10] (fun i => ∃ k : Nat, i = .int .i64 k ∧ k ≤ ks.length) (fun i => ks.length - (intOf i).toNat)
    case atStart => exact ⟨0, rfl, Nat.zero_le _⟩
    case round =>
      obtain ⟨k, rfl, hk⟩ := hrel
      by_cases hlt : k < ks.length
      · obtain ⟨g, o, rfl, hab, hc⟩ := H.out k hlt
        generalize ks.getD k noStr = s at hc
        by_cases hsb : 2147483647 < s.size
        · go_wp2_with fail
          go_ret
          exact ⟨false, rfl, Below.refl _ _, ⟨fun h => by cases h⟩⟩
        · go_wp2_with fail
          go_round
          case rel => exact ⟨k + 1, by go_num, by omega⟩
          case measure => simp [intOf]; omega
      · obtain rfl : k = ks.length := by omega
        go_wp2_with fail
        go_ret
        exact ⟨true, rfl, Below.refl _ _, ⟨fun _ => by omega⟩⟩
set_option maxHeartbeats 4000000 in
set_option maxRecDepth 100000 in
theorem fits2_calls (n : Nd) (hro : Ro n) (k' : Int) (t' : ByteArray) (kA' : Option Addr) (kn' kc' : Nat) (nA' : Option Addr) (nn' nc' : Nat) (w : World) (hat : NdAt w (fun _ => True) n [.int .i64 k', .string t', .slice kA' kn' kc', .slice nA' nn' nc']) :
    Calls Try.prog 4 #[.agg #[.int .i64 k', .string t', .slice kA' kn' kc', .slice nA' nn' nc']] w (BoolA True w) := by
  obtain ⟨k, t, ks, kids⟩ := n
  obtain ⟨kA, kc, nA, nc, hcs, hkc, hnc, hkeys, hks, hkids⟩ := hat.open
  simp only [List.cons.injEq, and_true, Value.int.injEq, Value.string.injEq, Value.slice.injEq, true_and] at hcs
  obtain ⟨e1, e2, ⟨e3, e4, e5⟩, e6, e7, e8⟩ := hcs
  obtain rfl := e1.symm; obtain rfl := e2.symm; obtain rfl := e3.symm; obtain rfl := e4.symm; obtain rfl := e5.symm; obtain rfl := e6.symm; obtain rfl := e7.symm; obtain rfl := e8.symm
  unfold Ro at hro
  have hkl : ks.length ≤ 140737488351232 := by have := hro.1.2.1; omega
  have hnl : kids.length ≤ 140737488351232 := by have := hro.1.1; omega
  have HKS : Aside0 (StrsAt w kA ks) := ⟨fun i hi => by
    obtain ⟨g, o, e, _, hl, hc⟩ := hks i hi
    exact ⟨g, o, e, hl, hc⟩⟩
  have HRO0 := Aside0.mk (RO.start w (.cells #[.int .i64 k, .string t, .slice kA ks.length kc, .slice nA kids.length nc] 25))
  clear hat hkeys hks hkids hro
  go_enter Try.func4, Try.ntmps4
  go_upto_region 1 with fail
  generalize (w.alloc (.cells #[.int .i64 k, .string t, .slice kA ks.length kc, .slice nA kids.length nc] 25)) = W0 at HRO0 ⊢
  obtain ⟨x0, x1, x2, x3, xf⟩ := nd_cells HRO0.out.box
  have HC := Aside0.mk (fits1_calls ks kA kc W0 hkl (HKS.out.below HRO0.out.below))
  unfold BoolA at HC
  by_cases hsb : 2147483647 < t.size
  · go_wp2_with fail
    go_ret
    exact ⟨_, rfl, HRO0.out.below, ⟨fun _ => trivial⟩⟩
  · by_cases hsk : 2147483647 < kids.length
    · go_wp2_with (first | (go_at_call 8; refine HC.out.mono ?_; rintro e w1 ⟨b, rfl, hb1, _⟩; have HR1 := Aside0.mk (HRO0.out.next hb1); obtain ⟨y0, y1, y2, y3, yf⟩ := nd_cells HR1.out.box; clear hb1; cases b))
      all_goals
        go_ret
        exact ⟨_, rfl, HR1.out.below, ⟨fun _ => trivial⟩⟩
    · go_wp2_with (first | (go_at_call 8; refine HC.out.mono ?_; rintro e w1 ⟨b, rfl, hb1, _⟩; have HR1 := Aside0.mk (HRO0.out.next hb1); obtain ⟨y0, y1, y2, y3, yf⟩ := nd_cells HR1.out.box; clear hb1; cases b))
      all_goals
        go_ret
        exact ⟨_, rfl, HR1.out.below, ⟨fun _ => trivial⟩⟩
end Go.Proofs.Ytmomjgkbimeeoaa.G
