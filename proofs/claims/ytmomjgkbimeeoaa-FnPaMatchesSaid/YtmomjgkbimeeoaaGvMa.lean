/- json-patch: kinds told apart (zzKind). -/
import Derived.Test.YtmomjgkbimeeoaaGvVq
namespace Go.Proofs.Ytmomjgkbimeeoaa.G
set_option linter.unusedVariables false
set_option linter.unusedSimpArgs false
open Go.RowKit Go.Proofs.YtmomjgkbimeeoaaW.PrintWords

theorem asI9_9 (v : Value) (w : World) : (Instr.typeAssert (.iface 9 v) 20 9 true).run Try.prog w = .ok (.tuple #[v, .bool true]) w := by kernel_rfl
theorem asI9_101 (v : Value) (w : World) : (Instr.typeAssert (.iface 9 v) 20 45 true).run Try.prog w = .ok (.tuple #[.string ⟨#[]⟩, .bool false]) w := by kernel_rfl
theorem asI9_100 (v : Value) (w : World) : (Instr.typeAssert (.iface 9 v) 20 46 true).run Try.prog w = .ok (.tuple #[.float .f64 0, .bool false]) w := by kernel_rfl
theorem asI9_4 (v : Value) (w : World) : (Instr.typeAssert (.iface 9 v) 20 4 true).run Try.prog w = .ok (.tuple #[.bool false, .bool false]) w := by kernel_rfl
theorem asI9_71 (v : Value) (w : World) : (Instr.typeAssert (.iface 9 v) 20 47 true).run Try.prog w = .ok (.tuple #[.map none, .bool false]) w := by kernel_rfl
theorem asI9_103 (v : Value) (w : World) : (Instr.typeAssert (.iface 9 v) 20 49 true).run Try.prog w = .ok (.tuple #[.slice none 0 0, .bool false]) w := by kernel_rfl
theorem asJ9 (v : Value) (w : World) : (Instr.typeAssert (.iface 9 v) 20 9 false).run Try.prog w = .ok v w := by kernel_rfl
theorem asI101_9 (v : Value) (w : World) : (Instr.typeAssert (.iface 45 v) 20 9 true).run Try.prog w = .ok (.tuple #[.string ⟨#[]⟩, .bool false]) w := by kernel_rfl
theorem asI101_101 (v : Value) (w : World) : (Instr.typeAssert (.iface 45 v) 20 45 true).run Try.prog w = .ok (.tuple #[v, .bool true]) w := by kernel_rfl
theorem asI101_100 (v : Value) (w : World) : (Instr.typeAssert (.iface 45 v) 20 46 true).run Try.prog w = .ok (.tuple #[.float .f64 0, .bool false]) w := by kernel_rfl
theorem asI101_4 (v : Value) (w : World) : (Instr.typeAssert (.iface 45 v) 20 4 true).run Try.prog w = .ok (.tuple #[.bool false, .bool false]) w := by kernel_rfl
theorem asI101_71 (v : Value) (w : World) : (Instr.typeAssert (.iface 45 v) 20 47 true).run Try.prog w = .ok (.tuple #[.map none, .bool false]) w := by kernel_rfl
theorem asI101_103 (v : Value) (w : World) : (Instr.typeAssert (.iface 45 v) 20 49 true).run Try.prog w = .ok (.tuple #[.slice none 0 0, .bool false]) w := by kernel_rfl
theorem asJ101 (v : Value) (w : World) : (Instr.typeAssert (.iface 45 v) 20 45 false).run Try.prog w = .ok v w := by kernel_rfl
theorem asI4_9 (v : Value) (w : World) : (Instr.typeAssert (.iface 4 v) 20 9 true).run Try.prog w = .ok (.tuple #[.string ⟨#[]⟩, .bool false]) w := by kernel_rfl
theorem asI4_101 (v : Value) (w : World) : (Instr.typeAssert (.iface 4 v) 20 45 true).run Try.prog w = .ok (.tuple #[.string ⟨#[]⟩, .bool false]) w := by kernel_rfl
theorem asI4_100 (v : Value) (w : World) : (Instr.typeAssert (.iface 4 v) 20 46 true).run Try.prog w = .ok (.tuple #[.float .f64 0, .bool false]) w := by kernel_rfl
theorem asI4_4 (v : Value) (w : World) : (Instr.typeAssert (.iface 4 v) 20 4 true).run Try.prog w = .ok (.tuple #[v, .bool true]) w := by kernel_rfl
theorem asI4_71 (v : Value) (w : World) : (Instr.typeAssert (.iface 4 v) 20 47 true).run Try.prog w = .ok (.tuple #[.map none, .bool false]) w := by kernel_rfl
theorem asI4_103 (v : Value) (w : World) : (Instr.typeAssert (.iface 4 v) 20 49 true).run Try.prog w = .ok (.tuple #[.slice none 0 0, .bool false]) w := by kernel_rfl
theorem asJ4 (v : Value) (w : World) : (Instr.typeAssert (.iface 4 v) 20 4 false).run Try.prog w = .ok v w := by kernel_rfl
theorem asI71_9 (v : Value) (w : World) : (Instr.typeAssert (.iface 47 v) 20 9 true).run Try.prog w = .ok (.tuple #[.string ⟨#[]⟩, .bool false]) w := by kernel_rfl
theorem asI71_101 (v : Value) (w : World) : (Instr.typeAssert (.iface 47 v) 20 45 true).run Try.prog w = .ok (.tuple #[.string ⟨#[]⟩, .bool false]) w := by kernel_rfl
theorem asI71_100 (v : Value) (w : World) : (Instr.typeAssert (.iface 47 v) 20 46 true).run Try.prog w = .ok (.tuple #[.float .f64 0, .bool false]) w := by kernel_rfl
theorem asI71_4 (v : Value) (w : World) : (Instr.typeAssert (.iface 47 v) 20 4 true).run Try.prog w = .ok (.tuple #[.bool false, .bool false]) w := by kernel_rfl
theorem asI71_71 (v : Value) (w : World) : (Instr.typeAssert (.iface 47 v) 20 47 true).run Try.prog w = .ok (.tuple #[v, .bool true]) w := by kernel_rfl
theorem asI71_103 (v : Value) (w : World) : (Instr.typeAssert (.iface 47 v) 20 49 true).run Try.prog w = .ok (.tuple #[.slice none 0 0, .bool false]) w := by kernel_rfl
theorem asJ71 (v : Value) (w : World) : (Instr.typeAssert (.iface 47 v) 20 47 false).run Try.prog w = .ok v w := by kernel_rfl
theorem asI103_9 (v : Value) (w : World) : (Instr.typeAssert (.iface 49 v) 20 9 true).run Try.prog w = .ok (.tuple #[.string ⟨#[]⟩, .bool false]) w := by kernel_rfl
theorem asI103_101 (v : Value) (w : World) : (Instr.typeAssert (.iface 49 v) 20 45 true).run Try.prog w = .ok (.tuple #[.string ⟨#[]⟩, .bool false]) w := by kernel_rfl
theorem asI103_100 (v : Value) (w : World) : (Instr.typeAssert (.iface 49 v) 20 46 true).run Try.prog w = .ok (.tuple #[.float .f64 0, .bool false]) w := by kernel_rfl
theorem asI103_4 (v : Value) (w : World) : (Instr.typeAssert (.iface 49 v) 20 4 true).run Try.prog w = .ok (.tuple #[.bool false, .bool false]) w := by kernel_rfl
theorem asI103_71 (v : Value) (w : World) : (Instr.typeAssert (.iface 49 v) 20 47 true).run Try.prog w = .ok (.tuple #[.map none, .bool false]) w := by kernel_rfl
theorem asI103_103 (v : Value) (w : World) : (Instr.typeAssert (.iface 49 v) 20 49 true).run Try.prog w = .ok (.tuple #[v, .bool true]) w := by kernel_rfl
theorem asJ103 (v : Value) (w : World) : (Instr.typeAssert (.iface 49 v) 20 49 false).run Try.prog w = .ok v w := by kernel_rfl
theorem asN_9 (w : World) : (Instr.typeAssert .nilIface 20 9 true).run Try.prog w = .ok (.tuple #[.string ⟨#[]⟩, .bool false]) w := by kernel_rfl
theorem asN_101 (w : World) : (Instr.typeAssert .nilIface 20 45 true).run Try.prog w = .ok (.tuple #[.string ⟨#[]⟩, .bool false]) w := by kernel_rfl
theorem asN_100 (w : World) : (Instr.typeAssert .nilIface 20 46 true).run Try.prog w = .ok (.tuple #[.float .f64 0, .bool false]) w := by kernel_rfl
theorem asN_4 (w : World) : (Instr.typeAssert .nilIface 20 4 true).run Try.prog w = .ok (.tuple #[.bool false, .bool false]) w := by kernel_rfl
theorem asN_71 (w : World) : (Instr.typeAssert .nilIface 20 47 true).run Try.prog w = .ok (.tuple #[.map none, .bool false]) w := by kernel_rfl
theorem asN_103 (w : World) : (Instr.typeAssert .nilIface 20 49 true).run Try.prog w = .ok (.tuple #[.slice none 0 0, .bool false]) w := by kernel_rfl
/-- The kind that zzKind tells. -/
def zkV : Value → Int
  | .nilIface => 0
  | .iface 9 _ => 1
  | .iface 45 _ => 2
  | .iface 4 _ => 4
  | .iface 47 _ => 5
  | .iface 49 _ => 6
  | _ => 7
def ZkA (k : Int) (w : World) (e : Ending) (w' : World) : Prop := e = .returned (.int .i64 k) ∧ w' = w
set_option maxHeartbeats 4000000 in
set_option maxRecDepth 100000 in
theorem zk_nil (w : World) : Calls Try.prog 24 #[.nilIface] w (ZkA 0 w) := by
  go_enter Try.func24, Try.ntmps24
  go_wp2_with fail
  go_ret
  exact ⟨rfl, rfl⟩
set_option maxHeartbeats 4000000 in
set_option maxRecDepth 100000 in
theorem zk_9 (v : Value) (w : World) : Calls Try.prog 24 #[.iface 9 v] w (ZkA 1 w) := by
  have h9 := asI9_9
  go_enter Try.func24, Try.ntmps24
  go_wp2_with fail
  go_ret
  exact ⟨rfl, rfl⟩
set_option maxHeartbeats 4000000 in
set_option maxRecDepth 100000 in
theorem zk_101 (v : Value) (w : World) : Calls Try.prog 24 #[.iface 45 v] w (ZkA 2 w) := by
  have h9 := asI101_9
  have h101 := asI101_101
  go_enter Try.func24, Try.ntmps24
  go_wp2_with fail
  go_ret
  exact ⟨rfl, rfl⟩
set_option maxHeartbeats 4000000 in
set_option maxRecDepth 100000 in
theorem zk_4 (v : Value) (w : World) : Calls Try.prog 24 #[.iface 4 v] w (ZkA 4 w) := by
  have h9 := asI4_9
  have h101 := asI4_101
  have h100 := asI4_100
  have h4 := asI4_4
  go_enter Try.func24, Try.ntmps24
  go_wp2_with fail
  go_ret
  exact ⟨rfl, rfl⟩
set_option maxHeartbeats 4000000 in
set_option maxRecDepth 100000 in
theorem zk_71 (v : Value) (w : World) : Calls Try.prog 24 #[.iface 47 v] w (ZkA 5 w) := by
  have h9 := asI71_9
  have h101 := asI71_101
  have h100 := asI71_100
  have h4 := asI71_4
  have h71 := asI71_71
  go_enter Try.func24, Try.ntmps24
  go_wp2_with fail
  go_ret
  exact ⟨rfl, rfl⟩
set_option maxHeartbeats 4000000 in
set_option maxRecDepth 100000 in
theorem zk_103 (v : Value) (w : World) : Calls Try.prog 24 #[.iface 49 v] w (ZkA 6 w) := by
  have h9 := asI103_9
  have h101 := asI103_101
  have h100 := asI103_100
  have h4 := asI103_4
  have h71 := asI103_71
  have h103 := asI103_103
  go_enter Try.func24, Try.ntmps24
  go_wp2_with fail
  go_ret
  exact ⟨rfl, rfl⟩
/-- zzKind of a value. -/
def zkN (k : Int) : Int := if k = 0 then 0 else if k = 4 then 1 else if k = 3 then 2 else if k = 5 then 6 else if k = 6 then 5 else 4
theorem zk_calls {w : World} {F : Nat → Prop} {n : Nd} {v : Value} (h : VAt w F n v) : Calls Try.prog 24 #[v] w (ZkA (zkN n.kind) w) := by
  cases n with
  | mk k t ks kids =>
    unfold VAt at h
    rcases h with ⟨rfl, rfl⟩ | ⟨rfl, rfl⟩ | ⟨rfl, rfl⟩ | ⟨rfl, rfl⟩ | ⟨rfl, rfl⟩ | ⟨rfl, g, cap, us, rfl, _⟩ | ⟨rfl, m, us, rfl, _⟩
    · exact zk_nil w
    · exact zk_4 _ w
    · exact zk_4 _ w
    · exact zk_101 _ w
    · exact zk_9 _ w
    · exact zk_103 _ w
    · exact zk_71 _ w
end Go.Proofs.Ytmomjgkbimeeoaa.G
