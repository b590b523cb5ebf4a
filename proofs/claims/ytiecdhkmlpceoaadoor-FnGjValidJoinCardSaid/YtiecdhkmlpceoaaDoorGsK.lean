/- The law FnGjValidJoin, walked. -/
import Derived.Test.YtiecdhkmlpceoaaDoorGsJ
namespace Go.Proofs.YtiecdhkmlpceoaaDoor.G
set_option linter.unusedVariables false
set_option linter.unusedSimpArgs false
open Go.RowKit Go.Proofs.YtiecdhkmlpceoaaDoorW.PrintWords

theorem bytes_app (a b : ByteArray) : bytesOf (a ++ b) = bytesOf a ++ bytesOf b := by
  unfold bytesOf
  rw [ByteArray.data_append, Array.toList_append, List.map_append]
theorem size_app (a b : ByteArray) : (a ++ b).size = a.size + b.size := by
  have h := congrArg List.length (bytes_app a b)
  rw [List.length_append, bytesOf_length, bytesOf_length, bytesOf_length] at h
  exact h
def Acc (k : Nat) (L O : ByteArray) (ts ms : List (List Int)) : Prop :=
  ts.length = k ∧ ms.length = k ∧ bytesOf L = 91 :: ljoin ts ∧ bytesOf O = 123 :: ljoin ms ∧ (∀ t ∈ ts, jT t) ∧ (∀ m ∈ ms, isM m)
theorem isJ_of {xs : List Int} : jT xs → isJ xs = true := fun h => h
theorem isJ_no' {xs : List Int} : ¬ jT xs → isJ xs = false := fun h => by
  unfold jT at h; unfold isJ; simpa using h
theorem mem_new {q : List Int} {b : List Int} {S : ByteArray} (hq : q = 34 :: (b ++ [34])) (hb : QB b) (hS : jT (bytesOf S)) : isM (q ++ 58 :: bytesOf S) := ⟨b, bytesOf S, by rw [hq]; simp, hb, hS⟩
theorem Acc.first {L O q : ByteArray} {S : ByteArray} {b : List Int} (h : Acc 0 L O [] []) (hS : jT (bytesOf S)) (hq : bytesOf q = 34 :: (b ++ [34])) (hb : QB b) :
    Acc 1 (L ++ S) (O ++ (q ++ ⟨#[58]⟩ ++ S)) [bytesOf S] [bytesOf q ++ 58 :: bytesOf S] := by
  obtain ⟨h1, h2, h3, h4, h5, h6⟩ := h
  refine ⟨rfl, rfl, ?_, ?_, fun t ht => by simp at ht; rw [ht]; exact hS, fun m hm => by simp at hm; rw [hm]; exact mem_new hq hb hS⟩
  · rw [bytes_app, h3]; rfl
  · rw [bytes_app, bytes_app, bytes_app, h4, show bytesOf ⟨#[58]⟩ = [58] from rfl]; simp [ljoin]
theorem Acc.next {k : Nat} {L O q : ByteArray} {S : ByteArray} {b : List Int} {ts ms : List (List Int)} (h : Acc k L O ts ms) (hk : 0 < k) (hS : jT (bytesOf S)) (hq : bytesOf q = 34 :: (b ++ [34])) (hb : QB b) :
    Acc (k + 1) (L ++ ⟨#[44]⟩ ++ S) (O ++ ⟨#[44]⟩ ++ (q ++ ⟨#[58]⟩ ++ S)) (ts ++ [bytesOf S]) (ms ++ [bytesOf q ++ 58 :: bytesOf S]) := by
  obtain ⟨h1, h2, h3, h4, h5, h6⟩ := h
  have n1 : ts ≠ [] := fun e => by rw [e] at h1; simp at h1; omega
  have n2 : ms ≠ [] := fun e => by rw [e] at h2; simp at h2; omega
  refine ⟨by simp [h1], by simp [h2], ?_, ?_, fun t ht => ?_, fun m hm => ?_⟩
  · rw [bytes_app, bytes_app, h3, ljoin_snoc n1, show bytesOf ⟨#[44]⟩ = [44] from rfl]; simp
  · rw [bytes_app, bytes_app, bytes_app, bytes_app, h4, ljoin_snoc n2, show bytesOf ⟨#[44]⟩ = [44] from rfl, show bytesOf ⟨#[58]⟩ = [58] from rfl]; simp
  · rcases List.mem_append.1 ht with h | h
    · exact h5 t h
    · simp at h; rw [h]; exact hS
  · rcases List.mem_append.1 hm with h | h
    · exact h6 m h
    · simp at h; rw [h]; exact mem_new hq hb hS
theorem jT_J {S : ByteArray} {t : Pl} (h : J (bytesOf S) = some t) : jT (bytesOf S) := by unfold jT; rw [h]; rfl
def LawA (w : World) (e : Ending) (w' : World) : Prop := e = .returned (.bool true) ∧ Below w.heap.size w w'
set_option maxHeartbeats 16000000 in
set_option maxRecDepth 100000 in
theorem join_walk (ss : List ByteArray) (name : ByteArray) (ao : Option Addr) (N cap : Nat) (w : World) (hN : N ≤ 9223372036854775807) (h : TextsAt w ao N ss) (hT : HexT w) (hU : Lib.Utf8Tabs 2 3 w) (hn : name.size ≤ 9223372036854775807) :
    Calls Tryd.prog 6 #[.slice ao N cap, .string name] w (LawA w) := by
  have F := Aside0.mk (fits1_calls ss ao N cap w hN h)
  have HX := Aside0.mk h
  have HT := Aside0.mk hT
  have HU := Aside0.mk hU
  clear h hT hU
  by_cases hnm : 2147483647 < name.size
  · go_enter Tryd.func6, Tryd.ntmps6
    go_wp2_with (first | (go_at_call 13; refine F.out.mono ?_; rintro e w1 ⟨ok, rfl, rfl, -⟩; cases ok))
    all_goals go_ret
    all_goals exact ⟨rfl, Below.refl _ _⟩
  · go_enter Tryd.func6, Tryd.ntmps6
    go_wp2_with (first | (go_at_call 13; refine F.out.mono ?_; rintro e w1 ⟨ok, rfl, rfl, hfit⟩; cases ok))
    · go_ret
      exact ⟨rfl, Below.refl _ _⟩
    · have HF := Aside0.mk (hfit.out (by first | exact rfl | trivial))
      clear hfit F
      have HQ := Aside0.mk (fun W (hW : Below w1.heap.size w1 W) => gq_calls name W (by omega) (HT.out.below hW) (Utf8Tabs_below HU.out hW))
      go_loopw [5, 6, 21] (fun v5 v6 v21 wr => ∃ (k : Nat) (L O : ByteArray) (ts ms : List (List Int)), v5 = .string L ∧ v6 = .string O ∧ v21 = .int .i64 k ∧ k ≤ N ∧ Aside0 (Acc k L O ts ms) ∧ Aside0 (0 < k → N ≤ 64 ∧ L.size ≤ 4294967296) ∧ Aside0 (L.size ≤ 4294967296 * (k + 1)) ∧ Aside0 (O.size ≤ 1 + k * 17179869184) ∧ Aside0 (Below w1.heap.size w1 wr)) (fun _ _ i _ => N - (intOf i).toNat)
      case atStart => exact ⟨0, ⟨#[91]⟩, ⟨#[123]⟩, [], [], rfl, rfl, rfl, Nat.zero_le _, ⟨rfl, rfl, rfl, rfl, fun t ht => by simp at ht, fun m hm => by simp at hm⟩, ⟨fun h => by omega⟩, ⟨by decide⟩, ⟨by decide⟩, ⟨Below.refl _ _⟩⟩
      case round =>
        obtain ⟨k, L, O, ts, ms, rfl, rfl, rfl, hk, HA, HK, HL, HO, HB⟩ := hrel
        by_cases hlt : k < N
        · have hkk : Aside0 (k < ss.length) := ⟨by rw [HX.out.1]; exact hlt⟩
          obtain ⟨a, rfl, hab, hcell⟩ := (HX.out.below HB.out).2 k hlt
          have hsz := HF.out.2 k hkk.out
          generalize ss.getD k ByteArray.empty = S at hcell hsz
          have CP := Aside0.mk (places_calls S wr hsz)
          cases hj : J (bytesOf S) with
          | none =>
            rw [hj] at CP
            clear hj
            go_wp2_with (first
              | (go_at_call 14; refine CP.out.mono ?_; rintro e u1 ⟨pk, pb, pz, na, nn, nc, ka, kn, kc, ok, rfl, q1, hA⟩; have hb : ok = false := hA.out; clear hA; subst hb))
            go_ret
            exact ⟨rfl, (below_step HB.out q1).alloc (by have := (below_step HB.out q1).size; exact this) _⟩
          | some t =>
            have hJ := jT_J hj
            rw [hj] at CP
            have HJ := Aside0.mk hJ
            clear hj hJ
            by_cases hN64 : 64 < N
            · go_wp2_with (first
                | (go_at_call 14; refine CP.out.mono ?_; rintro e u1 ⟨pk, pb, pz, na, nn, nc, ka, kn, kc, ok, rfl, q1, hA⟩; have hb : ok = true := hA.out.1; clear hA; subst hb))
              go_ret
              exact ⟨rfl, (below_step HB.out q1).alloc (by have := (below_step HB.out q1).size; exact this) _⟩
            · by_cases hLb : 16384 < L.size
              · go_wp2_with (first
                  | (go_at_call 14; refine CP.out.mono ?_; rintro e u1 ⟨pk, pb, pz, na, nn, nc, ka, kn, kc, ok, rfl, q1, hA⟩; have hb : ok = true := hA.out.1; clear hA; subst hb))
                go_ret
                exact ⟨rfl, (below_step HB.out q1).alloc (by have := (below_step HB.out q1).size; exact this) _⟩
              · have hO : O.size ≤ 1099511627777 := by
                  have := HO.out
                  have h3 := Nat.mul_le_mul_right 17179869184 (show k ≤ 64 by omega)
                  omega
                have hLs : L.size ≤ 16384 := by omega
                have hnm' : name.size ≤ 2147483647 := by omega
                by_cases h0k : 0 < k
                · go_wp2_with (first
                    | (go_at_call 15; refine (HQ.out _ q2).mono ?_; rintro e u2 ⟨qs, qb, rfl, q3, q4, q5⟩; have q4' := q4.out)
                    | (go_at_call 14; refine CP.out.mono ?_; rintro e u1 ⟨pk, pb, pz, na, nn, nc, ka, kn, kc, ok, rfl, q1, hA⟩; have hb : ok = true := hA.out.1; clear hA; subst hb; have q2 := (below_step HB.out q1).alloc (by have := (below_step HB.out q1).size; exact this) (.cells #[.int .i64 pk, .int .i64 pb, .int .i64 pz, .slice na nn nc, .slice ka kn kc] 33)))
                  go_roundw
                  case rel => exact ⟨k + 1, L ++ ⟨#[44]⟩ ++ S, O ++ ⟨#[44]⟩ ++ (qs ++ ⟨#[58]⟩ ++ S), _, _, rfl, rfl, by go_num, hlt, ⟨HA.out.next h0k HJ.out q3.out.1 q3.out.2⟩, ⟨fun _ => ⟨by omega, by rw [size_app, size_app]; show L.size + 1 + S.size ≤ _; omega⟩⟩, ⟨by rw [size_app, size_app]; show L.size + 1 + S.size ≤ _; omega⟩, ⟨by rw [size_app, size_app, size_app, size_app]; have := HO.out; show O.size + 1 + (qs.size + 1 + S.size) ≤ _; omega⟩, ⟨below_step q2 q5⟩⟩
                  case measure => simp [intOf]; omega
                · have hz0 : ¬ (0 : Int) < (k : Int) := by omega
                  have HZ := Aside0.mk (show k = 0 by omega)
                  obtain ⟨rfl, rfl⟩ : ts = [] ∧ ms = [] := ⟨List.eq_nil_of_length_eq_zero (by rw [HA.out.1, HZ.out]), List.eq_nil_of_length_eq_zero (by rw [HA.out.2.1, HZ.out])⟩
                  go_wp2_with (first
                    | (go_at_call 15; refine (HQ.out _ q2).mono ?_; rintro e u2 ⟨qs, qb, rfl, q3, q4, q5⟩; have q4' := q4.out)
                    | (go_at_call 14; refine CP.out.mono ?_; rintro e u1 ⟨pk, pb, pz, na, nn, nc, ka, kn, kc, ok, rfl, q1, hA⟩; have hb : ok = true := hA.out.1; clear hA; subst hb; have q2 := (below_step HB.out q1).alloc (by have := (below_step HB.out q1).size; exact this) (.cells #[.int .i64 pk, .int .i64 pb, .int .i64 pz, .slice na nn nc, .slice ka kn kc] 33)))
                  go_roundw
                  case rel => exact ⟨k + 1, L ++ S, O ++ (qs ++ ⟨#[58]⟩ ++ S), _, _, rfl, rfl, by go_num, hlt, ⟨by rw [HZ.out]; exact Acc.first (by have := HA.out; rw [HZ.out] at this; exact this) HJ.out q3.out.1 q3.out.2⟩, ⟨fun _ => ⟨by omega, by rw [size_app]; omega⟩⟩, ⟨by rw [size_app]; omega⟩, ⟨by rw [size_app, size_app, size_app]; have := HO.out; show O.size + (qs.size + 1 + S.size) ≤ _; omega⟩, ⟨below_step q2 q5⟩⟩
                  case measure => simp [intOf]; omega
        · obtain rfl : k = N := by omega
          by_cases hLb : 16384 < L.size
          · go_wp2
            go_ret
            exact ⟨rfl, HB.out⟩
          · by_cases hnb : 256 < name.size
            · go_wp2
              go_ret
              exact ⟨rfl, HB.out⟩
            · have hO : O.size ≤ 1099511627777 := by
                have := HO.out
                by_cases h0 : 0 < k
                · have := (HK.out h0).1
                  have h3 := Nat.mul_le_mul_right 17179869184 this
                  omega
                · obtain rfl : k = 0 := by omega
                  omega
              have L1 : isJ (bytesOf (L ++ ⟨#[93]⟩)) = true := by
                rw [bytes_app, HA.out.2.2.1]; exact isJ_of (list_yes HA.out.2.2.2.2.1)
              have L2 : isJ (bytesOf (O ++ ⟨#[125]⟩)) = true := by
                rw [bytes_app, HA.out.2.2.2.1]; exact isJ_of (obj_yes HA.out.2.2.2.2.2)
              have L3 : isJ (bytesOf L) = false := by
                rw [HA.out.2.2.1]; exact isJ_no' (list_no HA.out.2.2.2.2.1)
              have L4 : isJ (bytesOf O) = false := by
                rw [HA.out.2.2.2.1]; exact isJ_no' (obj_no HA.out.2.2.2.2.2)
              have V1 := fun (W : World) => valid_calls (L ++ ⟨#[93]⟩) W (by rw [size_app]; show L.size + 1 ≤ _; omega)
              have V2 := fun (W : World) => valid_calls (O ++ ⟨#[125]⟩) W (by rw [size_app]; show O.size + 1 ≤ _; omega)
              have V3 := fun (W : World) => valid_calls L W (by omega)
              have V4 := fun (W : World) => valid_calls O W (by omega)
              rw [L1] at V1
              rw [L2] at V2
              rw [L3] at V3
              rw [L4] at V4
              have V1 := Aside0.mk V1
              have V2 := Aside0.mk (fun (U W : World) (_ : Below U.heap.size U W) => V2 W)
              have V3 := Aside0.mk (fun (U W : World) (_ : Below U.heap.size U W) => V3 W)
              have V4 := Aside0.mk (fun (U W : World) (_ : Below U.heap.size U W) => V4 W)
              clear L1 L2 L3 L4
              go_wp2_with (first
                | (go_at_call 16; refine (V4.out _ _ q3).mono ?_; rintro e u4 ⟨rfl, q4⟩)
                | (go_at_call 16; refine (V3.out _ _ q2).mono ?_; rintro e u3 ⟨rfl, q3⟩)
                | (go_at_call 16; refine (V2.out _ _ q1).mono ?_; rintro e u2 ⟨rfl, q2⟩)
                | (go_at_call 16; refine (V1.out _).mono ?_; rintro e u1 ⟨rfl, q1⟩))
              go_ret
              exact ⟨rfl, below_step (below_step (below_step (below_step HB.out q1) q2) q3) q4⟩
end Go.Proofs.YtiecdhkmlpceoaaDoor.G
