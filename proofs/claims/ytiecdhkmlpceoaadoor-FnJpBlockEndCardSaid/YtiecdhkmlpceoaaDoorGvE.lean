/- jsonparser's blockEnd, walked. -/
import Derived.Test.YtiecdhkmlpceoaaDoorGvC
namespace Go.Proofs.YtiecdhkmlpceoaaDoor.G
set_option linter.unusedVariables false
set_option linter.unusedSimpArgs false
open Go.RowKit Go.Proofs.YtiecdhkmlpceoaaDoorW.PrintWords

/-- Where the block ends (0 outside of strings, 1 in a string, 2 behind a backslash in it; how many are open; the place). -/
def blkF (a b : Int) : Nat → Int → Nat → List Int → Int
  | _, _, _, [] => -1
  | 0, l, p, x :: r => if x = 34 then blkF a b 1 l (p + 1) r else if x = a then blkF a b 0 (l + 1) (p + 1) r else if x = b then (if l - 1 = 0 then (p : Int) + 1 else blkF a b 0 (l - 1) (p + 1) r) else blkF a b 0 l (p + 1) r
  | 1, l, p, x :: r => if x = 92 then blkF a b 2 l (p + 1) r else if x = 34 then blkF a b 0 l (p + 1) r else blkF a b 1 l (p + 1) r
  | _, l, p, _ :: r => blkF a b 1 l (p + 1) r
theorem blk_str (a b l : Int) : ∀ (ys : List Int) (s : Bool) (k p : Nat) (e : Bool),
    ((seF s k e ys).1 = -1 ∧ blkF a b (if s then 2 else 1) l p ys = -1) ∨ ∃ j : Nat, 1 ≤ j ∧ j ≤ ys.length ∧ (seF s k e ys).1 = (k : Int) + j ∧ blkF a b (if s then 2 else 1) l p ys = blkF a b 0 l (p + j) (ys.drop j) := by
  intro ys
  induction ys with
  | nil => intro s k p e; left; cases s <;> simp [seF, blkF]
  | cons x r ih =>
    intro s k p e
    have up : ∀ (s' : Bool) (e' : Bool), seF s k e (x :: r) = seF s' (k + 1) e' r → blkF a b (if s then 2 else 1) l p (x :: r) = blkF a b (if s' then 2 else 1) l (p + 1) r →
        ((seF s k e (x :: r)).1 = -1 ∧ blkF a b (if s then 2 else 1) l p (x :: r) = -1) ∨ ∃ j : Nat, 1 ≤ j ∧ j ≤ (x :: r).length ∧ (seF s k e (x :: r)).1 = (k : Int) + j ∧ blkF a b (if s then 2 else 1) l p (x :: r) = blkF a b 0 l (p + j) ((x :: r).drop j) := by
      intro s' e' h1 h2
      rw [h1, h2]
      rcases ih s' (k + 1) (p + 1) e' with h | ⟨j, h3, h4, h5, h6⟩
      · exact .inl h
      · refine .inr ⟨j + 1, by omega, by simp; omega, by rw [h5]; push_cast; omega, ?_⟩
        rw [h6, List.drop_succ_cons, show p + 1 + j = p + (j + 1) by omega]
    cases s
    · by_cases h1 : x = 92
      · exact up true true (by rw [seF, if_pos h1]) (by simp [blkF, h1])
      · by_cases h2 : x = 34
        · right
          refine ⟨1, by omega, by simp, ?_, ?_⟩
          · rw [seF, if_neg h1, if_pos h2]; rfl
          · simp [blkF, h2]
        · exact up false e (by rw [seF, if_neg h1, if_neg h2]) (by simp [blkF, h1, h2])
    · exact up false e (by rw [seF]) (by simp [blkF])
section
variable {a b l : Int} {xs : List Int} {m : Nat} {x R : Int}
/-- What is answered from place m on, l open. -/
def blkAt (a b : Int) (xs : List Int) (l : Int) (m : Nat) : Int := blkF a b 0 l m (xs.drop m)
theorem blk_end (h : ¬ m < xs.length) : blkAt a b xs l m = -1 := by
  unfold blkAt
  rw [List.drop_eq_nil_of_le (by omega)]; unfold blkF; rfl
theorem blk_other (h : m < xs.length) (hx : x = xs.getD m 0) (h1 : x ≠ 34) (h2 : x ≠ a) (h3 : x ≠ b) : blkAt a b xs l m = blkAt a b xs l (m + 1) := by
  unfold blkAt
  rw [drop_cons' xs m h, ← hx, blkF, if_neg h1, if_neg h2, if_neg h3]
theorem blk_open (h : m < xs.length) (hx : x = xs.getD m 0) (h1 : x ≠ 34) (h2 : x = a) : blkAt a b xs l m = blkAt a b xs (l + 1) (m + 1) := by
  unfold blkAt
  rw [drop_cons' xs m h, ← hx, blkF, if_neg h1, if_pos h2]
theorem blk_last (h : m < xs.length) (hx : x = xs.getD m 0) (h1 : x ≠ 34) (h2 : x ≠ a) (h3 : x = b) (h4 : l - 1 = 0) : blkAt a b xs l m = (m : Int) + 1 := by
  unfold blkAt
  rw [drop_cons' xs m h, ← hx, blkF, if_neg h1, if_neg h2, if_pos h3, if_pos h4]
theorem blk_close (h : m < xs.length) (hx : x = xs.getD m 0) (h1 : x ≠ 34) (h2 : x ≠ a) (h3 : x = b) (h4 : ¬ l - 1 = 0) : blkAt a b xs l m = blkAt a b xs (l - 1) (m + 1) := by
  unfold blkAt
  rw [drop_cons' xs m h, ← hx, blkF, if_neg h1, if_neg h2, if_pos h3, if_neg h4]
/-- A string: it has no end, or is passed by. -/
theorem blk_quote (h : m < xs.length) (hx : x = xs.getD m 0) (h1 : x = 34) :
    ((seAt (xs.drop (m + 1)) 0 false).1 = -1 ∧ blkAt a b xs l m = -1) ∨ ∃ j : Nat, 1 ≤ j ∧ m + 1 + j ≤ xs.length ∧ (seAt (xs.drop (m + 1)) 0 false).1 = (j : Int) ∧ blkAt a b xs l m = blkAt a b xs l (m + 1 + j) := by
  have e1 : seAt (xs.drop (m + 1)) 0 false = seF false 0 false (xs.drop (m + 1)) := by unfold seAt skip; rw [run_zero]; rfl
  have e2 : blkAt a b xs l m = blkF a b 1 l (m + 1) (xs.drop (m + 1)) := by
    unfold blkAt
    rw [drop_cons' xs m h, ← hx, blkF, if_pos h1]
  rw [e1, e2]
  rcases blk_str a b l (xs.drop (m + 1)) false 0 (m + 1) false with h2 | ⟨j, h3, h4, h5, h6⟩
  · exact .inl h2
  · right
    rw [List.length_drop] at h4
    refine ⟨j, h3, by omega, by rw [h5]; simp, ?_⟩
    have h7 : blkF a b 1 l (m + 1) (xs.drop (m + 1)) = _ := h6
    rw [h7]
    unfold blkAt
    rw [List.drop_drop]
end
/-- The configuration's cells. -/
def CfgAt (w : World) (B : Nat) : Prop := B < w.heap.size ∧ w.cell? ⟨B, 0, none⟩ = some (.bool false) ∧ w.cell? ⟨B, 1, none⟩ = some (.bool false) ∧ w.cell? ⟨B, 2, none⟩ = some (.int .i64 0)
theorem CfgAt.below {w w' : World} {B : Nat} (H : CfgAt w B) (hb : Below w.heap.size w w') : CfgAt w' B :=
  ⟨Nat.lt_of_lt_of_le H.1 hb.size, by rw [hb.cell (p := ⟨B, 0, none⟩) H.1]; exact H.2.1, by rw [hb.cell (p := ⟨B, 1, none⟩) H.1]; exact H.2.2.1, by rw [hb.cell (p := ⟨B, 2, none⟩) H.1]; exact H.2.2.2⟩
theorem cfg_new (w : World) (t : TypeId) : CfgAt (w.alloc (.cells #[.bool false, .bool false, .int .i64 0] t)) w.heap.size := by
  have : (w.alloc (.cells #[.bool false, .bool false, .int .i64 0] t)).heap[w.heap.size]? = some (.cells #[.bool false, .bool false, .int .i64 0] t) := heap_alloc_new w _
  refine ⟨by simp [World.size_alloc], ?_, ?_, ?_⟩ <;> (unfold World.cell?; simp only [this]; rfl)

set_option maxHeartbeats 8000000 in
set_option maxRecDepth 100000 in
theorem blockEnd_walk (a b : Int) (ha : 39 < a) (hb : 39 < b) (hab : a ≠ b) (h o n c : Nat) (xs : List Int) (w : World) (H : RowAt w h o xs) (hby : Bytes xs) (hl : xs.length = n) (hm : n ≤ 140737488351232) (hn : n ≤ c) (R : Int) (hR : blkAt a b xs 0 0 = R) :
    Calls Tryd.prog 63 #[.agg #[.bool false, .bool false, .int .i64 0], .slice (some ⟨h, o, none⟩) n c, .int .u8 a, .int .u8 b] w fun e w' => e = .returned (.int .i64 R) ∧ Below w.heap.size w w' := by
  have HH := Aside0.mk H
  have HBy := Aside0.mk hby
  have HR := Aside0.mk hR
  have HL := Aside0.mk hl
  have hab' : (a == b) = false := by simpa using hab
  clear H hby hR hl
  go_enter Tryd.func63, Tryd.ntmps63
  go_wp2_with fail
  go_loopw [9, 10, 12, 13, 14, 15] (fun lv i cc q s e wr => ∃ (m : Nat) (l : Int), m ≤ n ∧ -(m : Int) ≤ l ∧ l ≤ m ∧ lv = .int .i64 l ∧ i = .int .i64 m ∧ Aside0 (blkAt a b xs l m = R) ∧ Aside0 (Below w.heap.size w wr) ∧ Aside0 (CfgAt wr w.heap.size)) (fun _ i _ _ _ _ _ => n - (intOf i).toNat)
  case atStart => exact ⟨0, 0, Nat.zero_le _, by omega, by omega, rfl, rfl, HR, ⟨(Below.refl _ _).alloc (Nat.le_refl _) _⟩, ⟨cfg_new _ _⟩⟩
  case round =>
    clear HR
    obtain ⟨m0, l, hmn0, hl1, hl2, rfl, rfl, HF0, HB, HCf⟩ := hrel
    have HW := Aside0.mk (HH.out.below HB.out)
    by_cases hlt0 : m0 < n
    · go_wp2_with fail
      go_loop [10, 12] (fun i cc => ∃ m : Nat, m0 ≤ m ∧ m ≤ n ∧ i = .int .i64 m ∧ Aside0 (blkAt a b xs l m = R)) (fun i _ => n - (intOf i).toNat)
      case atStart => exact ⟨m0, Nat.le_refl _, hmn0, rfl, HF0⟩
      case round =>
        clear HF0
        obtain ⟨m, hm0, hmn, rfl, HF⟩ := hrel
        by_cases hlt : m < n
        · have hlt' := Aside0.mk (show m < xs.length by rw [HL.out]; exact hlt)
          obtain ⟨x, hx⟩ : ∃ x, x = xs.getD m 0 := ⟨_, rfl⟩
          have HX := Aside0.mk hx
          have hc : wr.cell? ⟨h, o + m, none⟩ = some (.int .u8 x) := by rw [hx]; exact HW.out.2 m hlt'.out
          clear hx
          by_cases h1 : x ≤ 32
          · go_wp2
            go_round
            case rel => exact ⟨m + 1, by omega, by omega, by go_num, ⟨by have := HF.out; rwa [blk_other hlt'.out HX.out (by omega) (by omega) (by omega)] at this⟩⟩
            case measure => simp [intOf]; omega
          · by_cases h2 : x = a
            · subst h2
              have hx34 : (x == 34) = false := by simp; omega
              have hx39 : (x == 39) = false := by simp; omega
              go_wp2
              all_goals
                go_roundw
                case rel => exact ⟨m + 1, l + 1, by omega, by omega, by omega, by go_num, by go_num, ⟨by have := HF.out; rwa [blk_open hlt'.out HX.out (by omega) rfl] at this⟩, HB, HCf⟩
                case measure => simp [intOf]; omega
            · have h2' : (x == a) = false := by simpa using h2
              have h2n : (x != a) = true := by simpa using h2
              by_cases h3 : x = b
              · subst h3
                have hx34 : (x == 34) = false := by simp; omega
                have hx39 : (x == 39) = false := by simp; omega
                by_cases h4 : l - 1 = 0
                · have h4' : (l - 1 == 0) = true := by simpa using h4
                  have HQ := HF.out
                  rw [blk_last hlt'.out HX.out (by omega) h2 rfl h4] at HQ
                  clear h4
                  subst HQ
                  go_wp2
                  all_goals
                    go_ret
                    exact ⟨rfl, HB.out⟩
                · have h4' : (l - 1 == 0) = false := by simpa using h4
                  go_wp2
                  all_goals
                    go_roundw
                    case rel => exact ⟨m + 1, l - 1, by omega, by omega, by omega, by go_num, by go_num, ⟨by have := HF.out; rwa [blk_close hlt'.out HX.out (by omega) h2 rfl h4] at this⟩, HB, HCf⟩
                    case measure => simp [intOf]; omega
              · have h3' : (x == b) = false := by simpa using h3
                have h3n : (x != b) = true := by simpa using h3
                by_cases h4 : 92 < x
                · go_wp2
                  go_round
                  case rel => exact ⟨m + 1, by omega, by omega, by go_num, ⟨by have := HF.out; rwa [blk_other hlt'.out HX.out (by omega) h2 h3] at this⟩⟩
                  case measure => simp [intOf]; omega
                · by_cases h5 : x = 34
                  · subst h5
                    have hg0 := HCf.out.2.1
                    have hg1 := HCf.out.2.2.1
                    have hg2 := HCf.out.2.2.2
                    have hdl : (xs.drop (m + 1)).length = n - (m + 1) := by rw [List.length_drop, HL.out]
                    have HDL := Aside0.mk hdl
                    clear hdl
                    have hmc : m + 1 ≤ c := by omega
                    have hmn1 : m + 1 ≤ n := by omega
                    have hwr : IntKind.i64.wrap ((m : Int) + 1) = (m : Int) + 1 := by rw [IntKind.wrap_i64]; omega
                    obtain ⟨⟨r1, r2⟩, hr⟩ : ∃ r, r = seAt (xs.drop (m + 1)) 0 false := ⟨_, rfl⟩
                    have HBD := HBy.out.drop (m + 1)
                    rcases blk_quote (a := a) (b := b) (l := l) hlt'.out HX.out rfl with ⟨hs, hk⟩ | ⟨j, hj1, hj2, hs, hk⟩
                    · have hr1 : r1 = -1 := by rw [← hr] at hs; exact hs
                      subst hr1
                      have HQ := HF.out
                      rw [hk] at HQ
                      subst HQ
                      by_cases hcm : c = m + 1
                      · have C := Aside0.mk (fun W (hW : RowAt W h o xs) => strEnd_walk false false 0 h o (n - (m + 1)) 0 (xs.drop (m + 1)) W ⟨hW.1, fun j hj => by rw [HDL.out] at hj; omega⟩ HBD HDL.out (by omega) (by omega) _ hr.symm)
                        clear hs hk hr HBD
                        go_upto_region 17 with fail
                        go_region_with (go_at_call 79; refine (C.out _ (HW.out.below (Below.refl _ _).drew)).mono ?_; rintro e w2 ⟨rfl, hb⟩)
                        all_goals go_wp2
                        all_goals go_ret
                        all_goals exact ⟨rfl, below_step HB.out.drew hb⟩
                      · have C := Aside0.mk (fun W (hW : RowAt W h o xs) => strEnd_walk false false 0 h (o + (m + 1)) (n - (m + 1)) (c - (m + 1)) (xs.drop (m + 1)) W (hW.drop (m + 1)) HBD HDL.out (by omega) (by omega) _ hr.symm)
                        clear hs hk hr HBD
                        go_upto_region 17 with fail
                        go_region_with (go_at_call 79; refine (C.out _ (HW.out.below (Below.refl _ _).drew)).mono ?_; rintro e w2 ⟨rfl, hb⟩)
                        all_goals go_wp2
                        all_goals go_ret
                        all_goals exact ⟨rfl, below_step HB.out.drew hb⟩
                    · have hr1 : r1 = (j : Int) := by rw [← hr] at hs; exact hs
                      subst hr1
                      have hjn : m + 1 + j ≤ n := by rw [← HL.out]; exact hj2
                      have hcm : ¬ c = m + 1 := by omega
                      have hjb : ((j : Int) == -1) = false := by simp
                      have C := Aside0.mk (fun W (hW : RowAt W h o xs) => strEnd_walk false false 0 h (o + (m + 1)) (n - (m + 1)) (c - (m + 1)) (xs.drop (m + 1)) W (hW.drop (m + 1)) HBD HDL.out (by omega) (by omega) _ hr.symm)
                      have HK : Aside0 (blkAt a b xs l (m + 1 + j) = R) := ⟨by rw [← hk]; exact HF.out⟩
                      clear hs hk hr HBD hj2
                      go_upto_region 17 with fail
                      go_region_with (go_at_call 79; refine (C.out _ (HW.out.below (Below.refl _ _).drew)).mono ?_; rintro e w2 ⟨rfl, hb⟩)
                      all_goals go_wp2
                      all_goals
                        go_roundw
                        case rel => exact ⟨m + 1 + j, l, by omega, by omega, by omega, rfl, by go_num, HK, ⟨below_step HB.out.drew hb⟩, ⟨(HCf.out.below (Below.refl _ _).drew).below hb⟩⟩
                        case measure => simp [intOf]; omega
                  · have h5' : (x == 34) = false := by simpa using h5
                    by_cases h6 : x = 39
                    · subst h6
                      have hg0 := HCf.out.2.1
                      go_wp2
                      go_roundw
                      case rel => exact ⟨m + 1, l, by omega, by omega, by omega, rfl, by go_num, ⟨by have := HF.out; rwa [blk_other hlt'.out HX.out h5 h2 h3] at this⟩, HB, HCf⟩
                      case measure => simp [intOf]; omega
                    · have h6' : (x == 39) = false := by simpa using h6
                      go_wp2
                      go_roundw
                      case rel => exact ⟨m + 1, l, by omega, by omega, by omega, rfl, by go_num, ⟨by have := HF.out; rwa [blk_other hlt'.out HX.out h5 h2 h3] at this⟩, HB, HCf⟩
                      case measure => simp [intOf]; omega
        · have HQ := HF.out
          rw [blk_end (by rw [HL.out]; exact hlt)] at HQ
          go_wp2
          go_ret
          subst HQ
          exact ⟨rfl, HB.out⟩
    · have HQ := HF0.out
      rw [blk_end (by rw [HL.out]; exact hlt0)] at HQ
      go_wp2
      go_ret
      subst HQ
      exact ⟨rfl, HB.out⟩
end Go.Proofs.YtiecdhkmlpceoaaDoor.G
