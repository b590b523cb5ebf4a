/- json-patch: the inner equality of values (matchesValue, matchesArray). -/
import Derived.Test.YtmomjgkbimeeoaaGvMa
import Derived.Test.YtmomjgkbimeeoaaGvPa
import Derived.Maps.RangeWalk
import Derived.Sort.MapsRangeIn
namespace Go.Proofs.Ytmomjgkbimeeoaa.G
set_option linter.unusedVariables false
set_option linter.unusedSimpArgs false
open Go.RowKit Go.Proofs.YtmomjgkbimeeoaaW.PrintWords

def MatA (b : Bool) (w : World) (e : Ending) (w' : World) : Prop := e = .returned (.bool b) ∧ Below w.heap.size w w'
/-- What is shown of matchesValue at two values. -/
def MvC (a b : Nd) : Prop := ∀ (F G : Nat → Prop) (v u : Value) (w : World), VAt w F a v → VAt w G b u → Calls Try.prog 20 #[v, u] w (MatA (alike a b) w)
theorem vrow_at {w : World} {B n : Nat} {g cap : Nat} {xs : List Value} (h : w.ownsRow B 20 1 (.slice (some ⟨g, 0, none⟩) n cap) n xs) {i : Nat} {u : Value} (hi : xs[i]? = some u) : w.cell? ⟨g, i, none⟩ = some u := by
  obtain ⟨g2, e, _, hc⟩ := row_at h hi
  cases e
  exact hc
theorem eqI (a : Addr) (n c : Nat) (w : World) : (binOp BinOp.eql 49 (Value.slice (some a) n c) (Value.slice none 0 0)).run Try.prog w = .ok (.bool false) w := by kernel_rfl
theorem neI (a : Addr) (n c : Nat) (w : World) : (binOp BinOp.neq 49 (Value.slice (some a) n c) (Value.slice none 0 0)).run Try.prog w = .ok (.bool true) w := by kernel_rfl
set_option maxHeartbeats 16000000 in
set_option maxRecDepth 100000 in
theorem matchAry_calls (kids kids2 : List Nd) (F G : Nat → Prop) (g cap g2 cap2 : Nat) (us us2 : List Value) (w : World) (hR : w.ownsRow 0 20 1 (.slice (some ⟨g, 0, none⟩) kids.length cap) kids.length us) (hV : VsAt w F kids us) (hR2 : w.ownsRow 0 20 1 (.slice (some ⟨g2, 0, none⟩) kids2.length cap2) kids2.length us2) (hV2 : VsAt w G kids2 us2)
    (hl : kids.length ≤ 140737488351232) (IH : ∀ i (hi : i < kids.length) (hi2 : i < kids2.length), MvC kids[i] kids2[i]) :
    Calls Try.prog 25 #[.slice (some ⟨g, 0, none⟩) kids.length cap, .slice (some ⟨g2, 0, none⟩) kids2.length cap2] w (fun e w' => ∃ b, e = .returned (.bool b) ∧ Below w.heap.size w w' ∧ Aside0 (b = true ↔ kids.length = kids2.length ∧ ∀ i (h : i < kids.length) (h2 : i < kids2.length), alike kids[i] kids2[i] = true)) := by
  have H := Aside0.mk (And.intro hR (And.intro hV (And.intro hR2 (And.intro hV2 IH))))
  have hgl := (hR.lt g rfl).2
  have hgl2 := (hR2.lt g2 rfl).2
  clear hR hV hR2 hV2 IH
  by_cases hn : kids.length = kids2.length
  · have HNE := Aside0.mk hn
    have hn1 : ((kids.length : Int) != (kids2.length : Int)) = false := by simp [hn]
    clear hn
    go_enter Try.func25, Try.ntmps25
    go_upto_region 3 with fail
    clear hn1
    have hE1 := eqI
    have hE2 := neI
    go_wp2_with fail
    clear hE1 hE2
    go_loopw [5, 27] (fun _ v27 wr => ∃ i : Nat, v27 = .int .i64 (i : Int) ∧ i ≤ kids.length ∧ Aside0 (Below w.heap.size w wr ∧ ∀ j (h : j < kids.length) (h2 : j < kids2.length), j < i → alike kids[j] kids2[j] = true)) (fun _ v27 _ => kids.length - (intOf v27).toNat)
    case atStart => exact ⟨0, rfl, Nat.zero_le _, ⟨Below.refl _ _, fun j _ _ hj => absurd hj (Nat.not_lt_zero _)⟩⟩
    case round =>
      obtain ⟨i, rfl, hi, HI⟩ := hrel
      by_cases hlt : i < kids.length
      · have hlt2 : i < kids2.length := by rw [← HNE.out]; exact hlt
        obtain ⟨u, hu, hau⟩ := H.out.2.1.get i hlt
        obtain ⟨u2, hu2, hau2⟩ := H.out.2.2.2.1.get i hlt2
        have hc := vrow_at H.out.1 hu
        have hc2 := vrow_at H.out.2.2.1 hu2
        rw [← HI.out.1.cell (p := ⟨g, i, none⟩) hgl] at hc
        rw [← HI.out.1.cell (p := ⟨g2, i, none⟩) hgl2] at hc2
        have HC := Aside0.mk (H.out.2.2.2.2 i hlt hlt2 F G u u2 wr.drew ((hau.below HI.out.1).below ((Below.refl _ _).drew)) ((hau2.below HI.out.1).below ((Below.refl _ _).drew)))
        have hs1 := hau.shape
        have hs2 := hau2.shape
        unfold MatA at HC
        obtain ⟨bb, hbb⟩ : ∃ bb, bb = alike kids[i] kids2[i] := ⟨_, rfl⟩
        rw [← hbb] at HC
        have HBB := Aside0.mk hbb
        clear hu hu2 hau hau2 hbb
        go_upto_region 8 with fail
        cases bb with
        | true =>
          rcases hs1 with rfl | ⟨T1, u1, rfl⟩ <;> rcases hs2 with rfl | ⟨T2, u2', rfl⟩
          all_goals
            go_region_with (first | (go_at_call 20; refine HC.out.mono ?_; rintro e w1 ⟨rfl, hb1⟩; have HB1 := Aside0.mk hb1; clear hb1) | fail "none")
            all_goals
              go_wp2_with fail
              go_roundw
              case rel => exact ⟨i + 1, by go_num, by omega, ⟨below_step HI.out.1 (below_step ((Below.refl _ _).drew) HB1.out), fun j h h2 hj => by
                by_cases e : j = i
                · subst e; exact HBB.out.symm
                · exact HI.out.2 j h h2 (by omega)⟩⟩
              case measure => simp [intOf]; omega
        | false =>
          rcases hs1 with rfl | ⟨T1, u1, rfl⟩ <;> rcases hs2 with rfl | ⟨T2, u2', rfl⟩
          all_goals
            go_region_with (first | (go_at_call 20; refine HC.out.mono ?_; rintro e w1 ⟨rfl, hb1⟩; have HB1 := Aside0.mk hb1; clear hb1) | fail "none")
            all_goals
              go_wp2_with fail
              go_ret
              exact ⟨false, rfl, below_step HI.out.1 (below_step ((Below.refl _ _).drew) HB1.out), ⟨⟨(fun h => by cases h), (fun h => by have := h.2 i hlt hlt2; rw [← HBB.out] at this; exact this)⟩⟩⟩
      · obtain rfl : i = kids.length := by omega
        go_wp2_with fail
        go_ret
        exact ⟨true, rfl, HI.out.1, ⟨⟨fun _ => ⟨HNE.out, fun j h h2 => HI.out.2 j h h2 h⟩, fun _ => rfl⟩⟩⟩
  · have hn1 : ((kids.length : Int) != (kids2.length : Int)) = true := by simp; omega
    have HNE := Aside0.mk hn
    clear hn
    go_enter Try.func25, Try.ntmps25
    go_wp2_with fail
    go_ret
    exact ⟨false, rfl, Below.refl _ _, ⟨⟨(fun h => by cases h), (fun h => absurd h.1 HNE.out)⟩⟩⟩
end Go.Proofs.Ytmomjgkbimeeoaa.G
