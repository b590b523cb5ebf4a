/- json-patch: the inner equality of values (matchesValue): leaves, arrays. -/
import Derived.Test.YtmomjgkbimeeoaaGvMa
import Derived.Test.YtmomjgkbimeeoaaGvPa
import Derived.Maps.RangeWalk
import Derived.Sort.MapsRangeIn
namespace Go.Proofs.Ytmomjgkbimeeoaa.G
set_option linter.unusedVariables false
set_option linter.unusedSimpArgs false
open Go.RowKit Go.Proofs.YtmomjgkbimeeoaaW.PrintWords

def MatB (b : Bool) (w : World) (e : Ending) (w' : World) : Prop := e = .returned (.bool b) ∧ Below w.heap.size w w'
set_option maxHeartbeats 4000000 in
set_option maxRecDepth 100000 in
theorem mv_other {F G : Nat → Prop} {a b : Nd} {v u : Value} {w : World} (h1 : VAt w F a v) (h2 : VAt w G b u) (hne : zkN a.kind ≠ zkN b.kind) : Calls Try.prog 20 #[v, u] w (MatB false w) := by
  have C1 := Aside0.mk (zk_calls h1)
  have C2 := Aside0.mk (zk_calls h2)
  have hd : (zkN a.kind != zkN b.kind) = true := by simpa using hne
  unfold ZkA at C1 C2
  generalize zkN a.kind = p at C1 hd
  generalize zkN b.kind = q at C2 hd
  have hs1 := h1.shape
  have hs2 := h2.shape
  clear h1 h2 hne
  rcases hs1 with rfl | ⟨T1, u1, rfl⟩ <;> rcases hs2 with rfl | ⟨T2, u2, rfl⟩
  all_goals
    go_enter Try.func20, Try.ntmps20
    go_wp2_with (first | (go_at_call 24; with_reducible refine C1.out.mono ?_; rintro e w1 ⟨rfl, rfl⟩; clear C1) | (go_at_call 24; with_reducible refine C2.out.mono ?_; rintro e w1 ⟨rfl, rfl⟩; clear C2) | fail "none")
    go_ret
    exact ⟨rfl, Below.refl _ _⟩
set_option maxHeartbeats 4000000 in
set_option maxRecDepth 100000 in
theorem mv_nil (w : World) : Calls Try.prog 20 #[.nilIface, .nilIface] w (MatB true w) := by
  have h9 := asN_9
  have h101 := asN_101
  have h100 := asN_100
  have h4 := asN_4
  go_enter Try.func20, Try.ntmps20
  go_wp2_with (first | (go_at_call 24; refine (zk_nil _).mono ?_; rintro e w1 ⟨rfl, rfl⟩) | fail "none")
  go_ret
  exact ⟨rfl, Below.refl _ _⟩
set_option maxHeartbeats 4000000 in
set_option maxRecDepth 100000 in
theorem mv_bool (x y : Bool) (w : World) : Calls Try.prog 20 #[.iface 4 (.bool x), .iface 4 (.bool y)] w (MatB (y == x) w) := by
  have h9 := asI4_9
  have h101 := asI4_101
  have h100 := asI4_100
  have h4 := asI4_4
  have hj := asJ4
  cases x <;> cases y
  all_goals
    go_enter Try.func20, Try.ntmps20
    go_wp2_with (first | (go_at_call 24; refine (zk_4 _ _).mono ?_; rintro e w1 ⟨rfl, rfl⟩) | fail "none")
    go_ret
    exact ⟨rfl, Below.refl _ _⟩
set_option maxHeartbeats 4000000 in
set_option maxRecDepth 100000 in
theorem mv_str (s t : ByteArray) (w : World) : Calls Try.prog 20 #[.iface 9 (.string s), .iface 9 (.string t)] w (MatB (decide (s = t)) w) := by
  have h9 := asI9_9
  have hj := asJ9
  by_cases e : s = t
  · subst e
    have hq : (s.toList == s.toList) = true := by simp
    have hd : decide (s = s) = true := by simp
    rw [hd]
    clear hd
    go_enter Try.func20, Try.ntmps20
    go_wp2_with (first | (go_at_call 24; refine (zk_9 _ _).mono ?_; rintro e w1 ⟨rfl, rfl⟩) | fail "none")
    go_ret
    exact ⟨rfl, Below.refl _ _⟩
  · have hq := toList_ne (Ne.symm e)
    have hd : decide (s = t) = false := decide_eq_false e
    rw [hd]
    clear hd e
    go_enter Try.func20, Try.ntmps20
    go_wp2_with (first | (go_at_call 24; refine (zk_9 _ _).mono ?_; rintro e w1 ⟨rfl, rfl⟩) | fail "none")
    go_ret
    exact ⟨rfl, Below.refl _ _⟩
set_option maxHeartbeats 4000000 in
set_option maxRecDepth 100000 in
theorem mv_num (s t : ByteArray) (w : World) : Calls Try.prog 20 #[.iface 45 (.string s), .iface 45 (.string t)] w (MatB (decide (s = t)) w) := by
  have h9 := asI101_9
  have h101 := asI101_101
  have hj := asJ101
  by_cases e : s = t
  · subst e
    have hq : (s.toList == s.toList) = true := by simp
    have hd : decide (s = s) = true := by simp
    rw [hd]
    clear hd
    go_enter Try.func20, Try.ntmps20
    go_wp2_with (first | (go_at_call 24; refine (zk_101 _ _).mono ?_; rintro e w1 ⟨rfl, rfl⟩) | fail "none")
    go_ret
    exact ⟨rfl, Below.refl _ _⟩
  · have hq := toList_ne (Ne.symm e)
    have hd : decide (s = t) = false := decide_eq_false e
    rw [hd]
    clear hd e
    go_enter Try.func20, Try.ntmps20
    go_wp2_with (first | (go_at_call 24; refine (zk_101 _ _).mono ?_; rintro e w1 ⟨rfl, rfl⟩) | fail "none")
    go_ret
    exact ⟨rfl, Below.refl _ _⟩
set_option maxHeartbeats 4000000 in
set_option maxRecDepth 100000 in
theorem mv_ary (g n c g2 n2 c2 : Nat) (P : Bool → Prop) (w : World) (C : Calls Try.prog 25 #[.slice (some ⟨g, 0, none⟩) n c, .slice (some ⟨g2, 0, none⟩) n2 c2] w (fun e w' => ∃ b, e = .returned (.bool b) ∧ Below w.heap.size w w' ∧ Aside0 (P b))) :
    Calls Try.prog 20 #[.iface 49 (.slice (some ⟨g, 0, none⟩) n c), .iface 49 (.slice (some ⟨g2, 0, none⟩) n2 c2)] w (fun e w' => ∃ b, e = .returned (.bool b) ∧ Below w.heap.size w w' ∧ Aside0 (P b)) := by
  have h9 := asI103_9
  have h101 := asI103_101
  have h100 := asI103_100
  have h4 := asI103_4
  have h71 := asI103_71
  have h103 := asI103_103
  have hj := asJ103
  have HC := Aside0.mk C
  clear C
  go_enter Try.func20, Try.ntmps20
  go_wp2_with (first | (go_at_call 24; refine (zk_103 _ _).mono ?_; rintro e w1 ⟨rfl, rfl⟩) | (go_at_call 25; refine HC.out.mono ?_; rintro e w1 ⟨b, rfl, hb1, hP⟩) | fail "none")
  go_ret
  exact ⟨b, rfl, hb1, hP⟩
end Go.Proofs.Ytmomjgkbimeeoaa.G
