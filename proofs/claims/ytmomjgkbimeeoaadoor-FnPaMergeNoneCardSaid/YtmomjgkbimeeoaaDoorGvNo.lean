/- json-patch: lazy nodes made of values: the leaves. -/
import Derived.Test.YtmomjgkbimeeoaaDoorGvLp
namespace Go.Proofs.YtmomjgkbimeeoaaDoor.G
set_option linter.unusedVariables false
set_option linter.unusedSimpArgs false
open Go.RowKit Go.Proofs.YtmomjgkbimeeoaaDoorW.PrintWords

theorem bytes_app (a b : ByteArray) : bytesOf (a ++ b) = bytesOf a ++ bytesOf b := by
  unfold bytesOf
  simp [ByteArray.data_append]
set_option maxHeartbeats 4000000 in
set_option maxRecDepth 100000 in
theorem node_nul (t : ByteArray) (kA : Option Addr) (kn kc : Nat) (nA : Option Addr) (nn nc : Nat) (op : Value) (w : World) : Calls Tryd.prog 60 #[.agg #[.int .i64 0, .string t, .slice kA kn kc, .slice nA nn nc], op] w (LzA .nul w) := by
  go_enter Tryd.func60, Tryd.ntmps60
  go_wp2_with fail
  go_ret
  exact LzA.of (below_alloc1 _) (by unfold LzAt; rfl)
set_option maxHeartbeats 4000000 in
set_option maxRecDepth 100000 in
theorem node_false (t : ByteArray) (kA : Option Addr) (kn kc : Nat) (nA : Option Addr) (nn nc : Nat) (op : Value) (w : World) : Calls Tryd.prog 60 #[.agg #[.int .i64 1, .string t, .slice kA kn kc, .slice nA nn nc], op] w (LzA (.raw bFalse) w) := by
  have CR := Aside0.mk (fun W => raw_calls ⟨#[102, 97, 108, 115, 101]⟩ W)
  have hbytes : bytesOf ⟨#[102, 97, 108, 115, 101]⟩ = bFalse := by decide
  rw [hbytes] at CR
  unfold RawA at CR
  clear hbytes
  go_enter Tryd.func60, Tryd.ntmps60
  go_wp2_with (first
    | (go_at_call 75; refine (new_calls _ _).mono ?_; rintro e w2 ⟨rfl, rfl⟩)
    | (go_at_call 76; refine (CR.out _).mono ?_; rintro e w1 ⟨rb, rfl, hb, hA⟩))
  go_ret
  have hb2 := below_step (below_alloc1 _) hb
  exact LzA.of (hb2.alloc hb2.size _) ((raw_new hb hA.out).mono (fun g hg => by unfold Rng at hg ⊢; rw [World.size_alloc] at hg; omega))
set_option maxHeartbeats 4000000 in
set_option maxRecDepth 100000 in
theorem node_true (t : ByteArray) (kA : Option Addr) (kn kc : Nat) (nA : Option Addr) (nn nc : Nat) (op : Value) (w : World) : Calls Tryd.prog 60 #[.agg #[.int .i64 2, .string t, .slice kA kn kc, .slice nA nn nc], op] w (LzA (.raw bTrue) w) := by
  have CR := Aside0.mk (fun W => raw_calls ⟨#[116, 114, 117, 101]⟩ W)
  have hbytes : bytesOf ⟨#[116, 114, 117, 101]⟩ = bTrue := by decide
  rw [hbytes] at CR
  unfold RawA at CR
  clear hbytes
  go_enter Tryd.func60, Tryd.ntmps60
  go_wp2_with (first
    | (go_at_call 75; refine (new_calls _ _).mono ?_; rintro e w2 ⟨rfl, rfl⟩)
    | (go_at_call 76; refine (CR.out _).mono ?_; rintro e w1 ⟨rb, rfl, hb, hA⟩))
  go_ret
  have hb2 := below_step (below_alloc1 _) hb
  exact LzA.of (hb2.alloc hb2.size _) ((raw_new hb hA.out).mono (fun g hg => by unfold Rng at hg ⊢; rw [World.size_alloc] at hg; omega))
set_option maxHeartbeats 4000000 in
set_option maxRecDepth 100000 in
theorem node_num (t : ByteArray) (kA : Option Addr) (kn kc : Nat) (nA : Option Addr) (nn nc : Nat) (op : Value) (w : World) : Calls Tryd.prog 60 #[.agg #[.int .i64 3, .string t, .slice kA kn kc, .slice nA nn nc], op] w (LzA (.raw (bytesOf t)) w) := by
  have CR := Aside0.mk (fun W => raw_calls t W)
  unfold RawA at CR
  go_enter Tryd.func60, Tryd.ntmps60
  go_wp2_with (first
    | (go_at_call 75; refine (new_calls _ _).mono ?_; rintro e w2 ⟨rfl, rfl⟩)
    | (go_at_call 76; refine (CR.out _).mono ?_; rintro e w1 ⟨rb, rfl, hb, hA⟩))
  go_ret
  have hb2 := below_step (below_alloc1 _) hb
  exact LzA.of (hb2.alloc hb2.size _) ((raw_new hb hA.out).mono (fun g hg => by unfold Rng at hg ⊢; rw [World.size_alloc] at hg; omega))
set_option maxHeartbeats 4000000 in
set_option maxRecDepth 100000 in
theorem node_str (t : ByteArray) (ht : t.size ≤ 140737488351232) (kA : Option Addr) (kn kc : Nat) (nA : Option Addr) (nn nc : Nat) (op : Value) (w : World) : Calls Tryd.prog 60 #[.agg #[.int .i64 4, .string t, .slice kA kn kc, .slice nA nn nc], op] w (LzA (.raw (34 :: bytesOf t ++ [34])) w) := by
  have CR := Aside0.mk (fun S W => raw_calls S W)
  unfold RawA at CR
  go_enter Tryd.func60, Tryd.ntmps60
  go_wp2_with (first
    | (go_at_call 75; refine (new_calls _ _).mono ?_; rintro e w2 ⟨rfl, rfl⟩)
    | (go_at_call 76; refine (CR.out _ _).mono ?_; rintro e w1 ⟨rb, rfl, hb, hA⟩))
  go_ret
  have hb2 := below_step (below_alloc1 _) hb
  have hby : bytesOf (({ data := #[34] } ++ t) ++ { data := #[34] }) = 34 :: (bytesOf t ++ [34]) := by
    rw [bytes_app, bytes_app]; rfl
  rw [← hby]
  exact LzA.of (hb2.alloc hb2.size _) ((raw_new hb hA.out).mono (fun g hg => by unfold Rng at hg ⊢; rw [World.size_alloc] at hg; omega))
end Go.Proofs.YtmomjgkbimeeoaaDoor.G
