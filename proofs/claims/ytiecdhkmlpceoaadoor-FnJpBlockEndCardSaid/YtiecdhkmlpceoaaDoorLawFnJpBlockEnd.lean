/- jsonparser's search for a block's end: every text of at most 2^16 bytes that begins with an opening brace or bracket (the statement's own guards). -/
import Derived.Test.YtiecdhkmlpceoaaDoorRows
import Derived.Test.YtiecdhkmlpceoaaDoorCards
import Derived.Test.YtiecdhkmlpceoaaDoorTie
import Derived.Test.YtiecdhkmlpceoaaDoorGvE
import Derived.Test.YtiecdhkmlpceoaaDoorGvL
import Derived.Test.YtiecdhkmlpceoaaDoorGvX
import Derived.WalkKit
import Derived.WalkSpells
import Derived.WalkLawsBesides
import Derived.ProofKit
import Derived.OpenShut
import Derived.ShutString
import Derived.ChangeOld
import Derived.Below
import Derived.SizedLaws
import Derived.LaidMore
import Derived.Deep.Strs
import Derived.Stop.LaidErr
import Derived.Stop.Joined
import Derived.SevenTiedAt
import Derived.Outline
namespace Go.Proofs.YtiecdhkmlpceoaaDoor.fnJpBlockEnd
open Go.ChangeShapes Go.WideShapes Go.ChangeAt Go.RowKit
open Go.ChangeMaps (open_string shut_string)
open Go.Proofs.YtiecdhkmlpceoaaDoor.G Go.Proofs.YtiecdhkmlpceoaaDoorW.PrintWords
set_option linter.unusedVariables false
set_option linter.unusedSimpArgs false

/-- The configuration's variable. -/
def GL (w : World) : Prop := CfgAt w 1
theorem conv_row (W : World) (s : ByteArray) : RowAt (Lib.bytesWorld W 5 s) W.heap.size 0 (bytesOf s) := by
  obtain ⟨g, cap, e, h1, h2, h3, h4, h5⟩ := Buf.conv W 5 s W.heap.size (Nat.le_refl _)
  injection e with e1 e2 e3
  injection e1 with e1
  injection e1 with e1
  subst e1 e3
  refine ⟨h2, fun j hj => ?_⟩
  rw [Nat.zero_add]
  exact h4 j _ (by simp [List.getD_eq_getElem?_getD, List.getElem?_eq_getElem hj])
theorem conv_below (w : World) (s : ByteArray) : Below w.heap.size w (Lib.bytesWorld w 5 s) := bytes_below (Below.refl _ _) (Nat.le_refl _) 5 s
theorem bytes_ok (s : ByteArray) : Bytes (bytesOf s) := by
  intro x hx
  obtain ⟨b, _, rfl⟩ := List.mem_map.1 hx
  have := b.toNat_lt
  omega
theorem bytes_at (s : ByteArray) (j : Nat) (h : j < s.size) : (bytesOf s).getD j 0 = (s[j].toNat : Int) := by
  have hl : j < s.data.toList.length := by simpa using h
  have hd : j < s.data.size := h
  have : (bytesOf s).getD j 0 = ((s.data[j]).toNat : Int) := by unfold bytesOf; simp [List.getD_eq_getElem?_getD, Array.getElem?_eq_getElem hd]
  rw [this]; rfl
theorem bytes_drop (s : ByteArray) (k : Nat) : bytesOf (s.extract k s.size) = (bytesOf s).drop k := by
  unfold bytesOf
  rw [ByteArray.data_extract, Array.toList_extract]
  have hl : s.data.toList.length = s.size := by simp
  rw [List.extract, ← List.map_drop]
  congr 1
  rw [List.take_of_length_le (by rw [List.length_drop, hl]; omega)]
def Ans (r : Int) (w : World) (e : Ending) (w' : World) : Prop := e = .returned (.int .i64 r) ∧ Below w.heap.size w w'

set_option maxRecDepth 100000 in
theorem blockEnd_calls (a b : Int) (ha : 39 < a) (hb : 39 < b) (hab : a ≠ b) (h n c : Nat) (xs : List Int) (w : World) (hG : GL w) (H : RowAt w h 0 xs) (hby : Bytes xs) (hl : xs.length = n) (hm : n ≤ 140737488351232) (hn : n ≤ c) :
    Calls Tryd.prog 41 #[.slice (some ⟨h, 0, none⟩) n c, .int .u8 a, .int .u8 b] w (Ans (blkAt a b xs 0 0) w) := by
  have HC := Aside0.mk (blockEnd_walk a b ha hb hab h 0 n c xs w H hby hl hm hn _ rfl)
  have g0 := hG.2.1
  have g1 := hG.2.2.1
  have g2 := hG.2.2.2
  clear H hby hl
  go_enter Tryd.func41, Tryd.ntmps41
  go_wp2_with (go_at_call 63; refine HC.out.mono ?_; rintro e w1 ⟨rfl, hb1⟩)
  go_ret
  unfold Ans
  exact ⟨rfl, hb1⟩
set_option maxRecDepth 100000 in
theorem door_calls (a b : Int) (ha : 39 < a) (hb : 39 < b) (hab : a ≠ b) (s : ByteArray) (w : World) (hG : GL w) (hm : s.size ≤ 140737488351232) :
    Calls Tryd.prog 26 #[.string s, .int .u8 a, .int .u8 b] w (Ans (blkAt a b (bytesOf s) 0 0) w) := by
  have kb := fun W => print_bytes (P := Tryd.prog) 9 55 5 Tryd.underlying9 Tryd.underlying55 Tryd.underlying5 s W
  have hge : s.size ≤ grownCap w s.size 0 5 := Nat.le_trans (by omega) (grownCap_ge w s.size 0 5)
  have HC := Aside0.mk (blockEnd_calls a b ha hb hab w.heap.size s.size (grownCap w s.size 0 5) (bytesOf s) (Lib.bytesWorld w 5 s) (CfgAt.below hG (conv_below w s)) (conv_row w s) (bytes_ok s) (bytesOf_length s) hm hge)
  go_enter Tryd.func26, Tryd.ntmps26
  go_wp2_with (go_at_call 41; refine HC.out.mono ?_; rintro e w1 ⟨rfl, hb1⟩)
  go_ret
  unfold Ans
  exact ⟨rfl, below_step (conv_below w s) hb1⟩
set_option maxRecDepth 100000 in
theorem impl_calls (a b : Int) (ha : 39 < a) (hb : 39 < b) (hab : a ≠ b) (s : ByteArray) (w : World) (hG : GL w) (hm : s.size ≤ 140737488351232) :
    Calls Tryd.prog 9 #[.string s, .int .u8 a, .int .u8 b] w (Ans (blkAt a b (bytesOf s) 0 0) w) := by
  have HC := Aside0.mk (door_calls a b ha hb hab s w hG hm)
  go_enter Tryd.func9, Tryd.ntmps9
  go_wp2_with (go_at_call 26; refine HC.out.mono ?_; rintro e w1 ⟨rfl, hb1⟩)
  go_ret
  unfold Ans
  exact ⟨rfl, hb1⟩

/-! ### the law's own reading -/
theorem se_skip (ys : List Int) (m : Nat) (e : Bool) : seF true (m + 1) e (ys.drop (m + 1)) = seF false (m + 2) e (ys.drop (m + 2)) := by
  by_cases h : m + 1 < ys.length
  · rw [drop_cons' ys (m + 1) h, seF]
  · rw [List.drop_eq_nil_of_le (by omega), List.drop_eq_nil_of_le (by omega)]; rfl
def Shut (r : Int) (w : World) (e : Ending) (w' : World) : Prop := ∃ q : Bool, e = .returned (.tuple #[.int .i64 r, .bool q]) ∧ w = w'
set_option maxHeartbeats 4000000 in
set_option maxRecDepth 100000 in
theorem close_calls (t : ByteArray) (ys : List Int) (w : World) (hy : bytesOf t = ys) (hm : t.size ≤ 140737488351232) (R : Int) (hR : (seAt ys 0 false).1 = R) :
    Calls Tryd.prog 27 #[.string t] w (Shut R w) := by
  have HL := Aside0.mk (show ys.length = t.size by rw [← hy, bytesOf_length])
  have HY := Aside0.mk hy
  have HR : Aside0 ((seF false 0 false (ys.drop 0)).1 = R) := ⟨by rw [← hR]; unfold seAt G.skip; rw [run_zero]; rfl⟩
  clear hy hR
  go_enter Tryd.func27, Tryd.ntmps27
  go_wp2_with fail
  go_loop [4, 5] (fun es i => ∃ (m : Nat) (e : Bool), m ≤ t.size + 1 ∧ es = .bool e ∧ i = .int .i64 m ∧ Aside0 ((seF false m e (ys.drop m)).1 = R)) (fun _ i => t.size + 1 - (intOf i).toNat)
  case atStart => exact ⟨0, false, by omega, rfl, rfl, HR⟩
  case round =>
    clear HR
    obtain ⟨m, e, hmn, rfl, rfl, HF⟩ := hrel
    by_cases hlt : m < t.size
    · have hlt' := Aside0.mk (show m < ys.length by rw [HL.out]; exact hlt)
      have HX : Aside0 (ys.getD m 0 = (t[m].toNat : Int)) := ⟨by rw [← HY.out]; exact bytes_at t m hlt⟩
      by_cases h1 : (t[m].toNat : Int) = 92
      · have h1' : ((t[m].toNat : Int) == 92) = true := by simpa using h1
        have HQ : Aside0 ((seF false (m + 2) true (ys.drop (m + 2))).1 = R) := ⟨by
          have := HF.out
          rw [drop_cons' ys m hlt'.out, HX.out, seF, if_pos h1, se_skip] at this; exact this⟩
        clear h1
        go_wp2
        go_round
        case rel => exact ⟨m + 2, true, by omega, rfl, by go_num, HQ⟩
        case measure => simp [intOf]; omega
      · have h1' : ((t[m].toNat : Int) == 92) = false := by simpa using h1
        by_cases h2 : (t[m].toNat : Int) = 34
        · have h2' : ((t[m].toNat : Int) == 34) = true := by simpa using h2
          have HQ : (m : Int) + 1 = R := by
            have := HF.out
            rw [drop_cons' ys m hlt'.out, HX.out, seF, if_neg h1, if_pos h2] at this; exact this
          clear h1 h2
          subst HQ
          go_wp2
          go_ret2
          unfold Shut
          exact ⟨_, rfl, rfl⟩
        · have h2' : ((t[m].toNat : Int) == 34) = false := by simpa using h2
          have HQ : Aside0 ((seF false (m + 1) e (ys.drop (m + 1))).1 = R) := ⟨by
            have := HF.out
            rw [drop_cons' ys m hlt'.out, HX.out, seF, if_neg h1, if_neg h2] at this; exact this⟩
          clear h1 h2
          go_wp2
          go_round
          case rel => exact ⟨m + 1, e, by omega, rfl, by go_num, HQ⟩
          case measure => simp [intOf]; omega
    · have HQ : -1 = R := by
        have := HF.out
        rw [List.drop_eq_nil_of_le (by rw [HL.out]; omega)] at this
        unfold seF at this; exact this
      subst HQ
      go_wp2
      go_ret2
      unfold Shut
      exact ⟨_, rfl, rfl⟩
set_option maxHeartbeats 4000000 in
set_option maxRecDepth 100000 in
theorem block_calls (a b : Int) (ha : 39 < a) (hb : 39 < b) (hab : a ≠ b) (s : ByteArray) (xs : List Int) (w : World) (hy : bytesOf s = xs) (hm : s.size ≤ 140737488351232) (R : Int) (hR : blkAt a b xs 0 0 = R) :
    Calls Tryd.prog 10 #[.string s, .int .u8 a, .int .u8 b] w fun e w' => e = .returned (.int .i64 R) ∧ w = w' := by
  have HL := Aside0.mk (show xs.length = s.size by rw [← hy, bytesOf_length])
  have HY := Aside0.mk hy
  have HR := Aside0.mk hR
  have hab' : (a == b) = false := by simpa using hab
  clear hy hR
  go_enter Tryd.func10, Tryd.ntmps10
  go_wp2_with fail
  go_loop [7, 8, 9, 10] (fun lv i nn qq => ∃ (m : Nat) (l : Int), m ≤ s.size ∧ -(m : Int) ≤ l ∧ l ≤ m ∧ lv = .int .i64 l ∧ i = .int .i64 m ∧ Aside0 (blkAt a b xs l m = R)) (fun _ i _ _ => s.size - (intOf i).toNat)
  case atStart => exact ⟨0, 0, Nat.zero_le _, by omega, by omega, rfl, rfl, HR⟩
  case round =>
    clear HR
    obtain ⟨m, l, hmn, hl1, hl2, rfl, rfl, HF⟩ := hrel
    by_cases hlt : m < s.size
    · have hlt' := Aside0.mk (show m < xs.length by rw [HL.out]; exact hlt)
      have HX : Aside0 ((s[m].toNat : Int) = xs.getD m 0) := ⟨by rw [← HY.out]; exact (bytes_at s m hlt).symm⟩
      by_cases h5 : (s[m].toNat : Int) = 34
      · have h5' : ((s[m].toNat : Int) == 34) = true := by simpa using h5
        have hsz : (s.extract (m + 1) s.size).size ≤ 140737488351232 := by simp; omega
        have hby : bytesOf (s.extract (m + 1) s.size) = xs.drop (m + 1) := by rw [bytes_drop, HY.out]
        have hms : m + 1 ≤ s.size := by omega
        rcases blk_quote (a := a) (b := b) (l := l) hlt'.out HX.out h5 with ⟨hs, hk⟩ | ⟨j, hj1, hj2, hs, hk⟩
        · have C := Aside0.mk (fun W => close_calls (s.extract (m + 1) s.size) _ W hby hsz (-1) hs)
          have HQ := HF.out
          rw [hk] at HQ
          subst HQ
          clear hs hk h5 hby hsz
          go_wp2_with (go_at_call 27; refine (C.out _).mono ?_; rintro e w2 ⟨q, rfl, rfl⟩)
          go_ret
          exact ⟨rfl, rfl⟩
        · have C := Aside0.mk (fun W => close_calls (s.extract (m + 1) s.size) _ W hby hsz (j : Int) hs)
          have HK : Aside0 (blkAt a b xs l (m + 1 + j) = R) := ⟨by rw [← hk]; exact HF.out⟩
          have hjn : m + 1 + j ≤ s.size := by rw [← HL.out]; exact hj2
          clear hs hk h5 hby hsz hj2
          go_wp2_with (go_at_call 27; refine (C.out _).mono ?_; rintro e w2 ⟨q, rfl, rfl⟩)
          go_round
          case rel => exact ⟨m + 1 + j, l, by omega, by omega, by omega, rfl, by go_num, HK⟩
          case measure => simp [intOf]; omega
      · have h5' : ((s[m].toNat : Int) == 34) = false := by simpa using h5
        by_cases h2 : (s[m].toNat : Int) = a
        · have h2' : ((s[m].toNat : Int) == a) = true := by simpa using h2
          have HK : Aside0 (blkAt a b xs (l + 1) (m + 1) = R) := ⟨by have := HF.out; rwa [blk_open hlt'.out HX.out h5 h2] at this⟩
          clear h5 h2
          go_wp2
          go_round
          case rel => exact ⟨m + 1, l + 1, by omega, by omega, by omega, by go_num, by go_num, HK⟩
          case measure => simp [intOf]; omega
        · have h2' : ((s[m].toNat : Int) == a) = false := by simpa using h2
          by_cases h3 : (s[m].toNat : Int) = b
          · have h3' : ((s[m].toNat : Int) == b) = true := by simpa using h3
            by_cases h4 : l - 1 = 0
            · have h4' : (l - 1 == 0) = true := by simpa using h4
              have HQ := HF.out
              rw [blk_last hlt'.out HX.out h5 h2 h3 h4] at HQ
              subst HQ
              clear h4 h5 h2 h3
              go_wp2
              go_ret
              exact ⟨rfl, rfl⟩
            · have h4' : (l - 1 == 0) = false := by simpa using h4
              have HK : Aside0 (blkAt a b xs (l - 1) (m + 1) = R) := ⟨by have := HF.out; rwa [blk_close hlt'.out HX.out h5 h2 h3 h4] at this⟩
              clear h5 h2 h3 h4
              go_wp2
              go_round
              case rel => exact ⟨m + 1, l - 1, by omega, by omega, by omega, by go_num, by go_num, HK⟩
              case measure => simp [intOf]; omega
          · have h3' : ((s[m].toNat : Int) == b) = false := by simpa using h3
            have HK : Aside0 (blkAt a b xs l (m + 1) = R) := ⟨by have := HF.out; rwa [blk_other hlt'.out HX.out h5 h2 h3] at this⟩
            clear h5 h2 h3
            go_wp2
            go_round
            case rel => exact ⟨m + 1, l, by omega, by omega, by omega, rfl, by go_num, HK⟩
            case measure => simp [intOf]; omega
    · have HQ := HF.out
      rw [blk_end (by rw [HL.out]; exact hlt)] at HQ
      subst HQ
      go_wp2
      go_ret
      exact ⟨rfl, rfl⟩
set_option maxHeartbeats 4000000 in
set_option maxRecDepth 100000 in
theorem walk (s : ByteArray) (w : World) (hG : GL w) (hs : s.size ≤ 140737488351232) :
    Calls Tryd.prog 3 #[.string s] w fun e w' => e = .returned (.bool true) ∧ Below w.heap.size w w' := by
  have C1 := Aside0.mk (impl_calls 123 125 (by omega) (by omega) (by omega) s w hG hs)
  have C2 := Aside0.mk (impl_calls 91 93 (by omega) (by omega) (by omega) s w hG hs)
  have D1 := Aside0.mk (fun W => block_calls 123 125 (by omega) (by omega) (by omega) s _ W rfl hs _ rfl)
  have D2 := Aside0.mk (fun W => block_calls 91 93 (by omega) (by omega) (by omega) s _ W rfl hs _ rfl)
  by_cases h0 : s.size = 0
  · have he : s.toList.isEmpty = true := by rw [toList_data, List.isEmpty_iff]; exact List.eq_nil_of_length_eq_zero (by simpa using h0)
    go_enter Tryd.func3, Tryd.ntmps3
    go_wp2_with fail
    all_goals (go_ret; exact ⟨rfl, Below.refl _ _⟩)
  · have hp : 0 < s.size := by omega
    have he : s.toList.isEmpty = false := by rw [toList_data]; exact List.isEmpty_eq_false_iff.2 (fun h => by have := size_data s; rw [h] at this; simp at this; omega)
    by_cases h1 : (s[0].toNat : Int) = 123
    · have h1' : ((s[0].toNat : Int) == 123) = true := by simpa using h1
      clear h1 h0
      go_enter Tryd.func3, Tryd.ntmps3
      go_wp2_with (first | (go_at_call 9; refine C1.out.mono ?_; rintro e w1 ⟨rfl, hb1⟩) | (go_at_call 10; refine (D1.out _).mono ?_; rintro e w2 ⟨rfl, rfl⟩))
      all_goals (go_ret; first | exact ⟨by simp, hb1⟩ | exact ⟨rfl, Below.refl _ _⟩ | exact ⟨rfl, hb1⟩)
    · have h1' : ((s[0].toNat : Int) == 123) = false := by simpa using h1
      by_cases h2 : (s[0].toNat : Int) = 91
      · have h2' : ((s[0].toNat : Int) == 91) = true := by simpa using h2
        clear h1 h0 h2
        go_enter Tryd.func3, Tryd.ntmps3
        go_wp2_with (first | (go_at_call 9; refine C2.out.mono ?_; rintro e w1 ⟨rfl, hb1⟩) | (go_at_call 10; refine (D2.out _).mono ?_; rintro e w2 ⟨rfl, rfl⟩))
        all_goals (go_ret; first | exact ⟨by simp, hb1⟩ | exact ⟨rfl, Below.refl _ _⟩ | exact ⟨rfl, hb1⟩)
      · have h2' : ((s[0].toNat : Int) == 91) = false := by simpa using h2
        clear h1 h0 h2
        go_enter Tryd.func3, Tryd.ntmps3
        go_wp2_with fail
        all_goals (go_ret; exact ⟨rfl, Below.refl _ _⟩)
/-! ### the row and the card -/
theorem own : ownKnob Tryd.prog.godebug = none := by kernel_rfl
theorem g1 : Tryd.prog.globalNamed "pub-tetrapla/pub/jsonparser.DefaultConfig" = some 1 := by kernel_rfl
theorem t1 : (Tryd.prog.globals[1]?).map (·.type) = some 95 := by kernel_rfl
theorem cells95 : Tryd.prog.cellsOf 95 = 3 := by kernel_rfl
theorem cells4 : Tryd.prog.cellsOf 4 = 1 := by kernel_rfl
theorem cells3 : Tryd.prog.cellsOf 3 = 1 := by kernel_rfl
theorem of_laid {W : World} (h : laidMetH Tryd.prog Rows.fnJpBlockEndRow.laid W) : GL W := by
  rw [MakeChecks.laidMetH_plain _ _ _ (by kernel_rfl)] at h
  obtain ⟨ps, ⟨g0, t0, cs0, f0, p0, q0, hg0, ht0, hv0, hd0, _, e0⟩, _, _⟩ := h
  obtain rfl := Option.some.inj (g1.symm.trans hg0)
  obtain rfl := Option.some.inj (t1.symm.trans ht0)
  obtain ⟨l0⟩ := cs0
  obtain ⟨y0, y1, y2, n, hx, hl, h0, h1, h2⟩ := Go.Deep.trod_struct3 Tryd.underlying95 hd0
  rw [cells95] at hl
  obtain ⟨v0, v1, v2, rfl⟩ : ∃ v0 v1 v2, l0 = [v0, v1, v2] := by
    have hl' : l0.length = 3 := hl
    clear h0 h1 h2 hv0 hd0 hl
    match l0, hl' with
    | [v0, v1, v2], _ => exact ⟨v0, v1, v2, rfl⟩
  have c := fun i => World.var?_cell g1 hv0 i
  simp only [cells4, cells3] at h0 h1 h2
  obtain ⟨b0, e1, e2⟩ := DataW.trod_bool Tryd.underlying4 h0
  obtain ⟨b1, e3, e4⟩ := DataW.trod_bool Tryd.underlying4 h1
  obtain ⟨b2, e5, e6, _⟩ := DataW.trod_int Tryd.underlying3 h2
  clear h0 h1 h2 hd0 hv0
  simp at e1 e3 e5
  subst e1 e3 e5
  subst e2 e4 e6
  simp [Rows.laid_pub_tetrapla_pub_jsonparser_DefaultConfig] at hx
  obtain ⟨⟨rfl, rfl, rfl⟩, _⟩ := hx
  have c0 : W.cell? ⟨1, 0, none⟩ = some (.bool false) := by rw [c 0]; rfl
  exact ⟨World.block_lt_of_cell? W _ c0, c0, by rw [c 1]; rfl, by rw [c 2]; rfl⟩
theorem door_met (os : Os) (args : Array Value) : laidMetH Tryd.prog Rows.fnJpBlockEndRow.laid ((World.doorLaid Tryd.prog 400 os).forCall (fun _ _ => 0) ⟨#[], args, []⟩).memory :=
  laidMetH_of_parts3 (fuel := 8) (laidMet_of_run' 8 (by kernel_rfl) (by kernel_rfl)) (by kernel_rfl) (by kernel_rfl)
set_option maxRecDepth 100000 in
theorem lifted (os : Os) (started : os.Started) (H : Type) (enc : TypeId × Value → H) :
    ReturnsInHanded {} Tryd.checked os 3 .any (fun w args => (Rows.fnJpBlockEndSpec.pre enc Tryd.prog Tryd.f3 [] false w args ∧ laidMetH Tryd.prog Rows.fnJpBlockEndRow.laid w) ∧ sizedMet enc Tryd.prog Tryd.f3 (OpenSpec.ofChange Rows.fnJpBlockEndSpec) false w args)
      (Rows.fnJpBlockEndSpec.post enc Tryd.prog Tryd.f3 false true false false) := by
  refine returnsInHanded_of_change_and (C := Tryd.checked) (X := fun w _ => laidMetH Tryd.prog Rows.fnJpBlockEndRow.laid w) (fun _ _ _ hh h => h.of_heap hh) own started (by kernel_rfl) Tryd.func3
    (ChangeSpec.witness_shaped (enc := enc) (C := Tryd.checked) (os := os) (X := fun w _ => laidMetH Tryd.prog Rows.fnJpBlockEndRow.laid w) false (World.doorLaid Tryd.prog 400 os) #[.string ByteArray.empty] 8 rfl (World.shaped_of_RefB (by kernel_rfl) (by kernel_rfl)) (by kernel_rfl) (by kernel_rfl) (by kernel_rfl) (door_met os _)) ?_
  intro W base args ds gs before hval0 hW _ hsz0 hL _
  have hsz : (DataW.weightsEach Tryd.prog (Tryd.f3.params.toList ++ Rows.fnJpBlockEndSpec.plain.varTypes Tryd.prog) (ds ++ gs)).all (· ≤ reachBytes) = true := hsz0
  have hval : ∀ (j : Nat) t v, Tryd.f3.params[j]? = some t → args[j]? = some v → Value.okWide Tryd.prog W .any base t v := hval0
  have hW' := hW
  obtain ⟨p, q, hA0, hV, rfl, hfz, hnd⟩ := hW
  have hA : DataW.TrodAll enc Tryd.prog W 0 (fun _ => true) true Tryd.f3.params.toList args.toList ds p := hA0
  rw [Tryd.params3] at hA hval hsz
  obtain ⟨v0, vs0, d0, ds0, p0, q0, hargs, rfl, rfl, h0, r0⟩ := trodAll_cons hA
  obtain ⟨rfl, rfl, rfl⟩ := trodAll_nil r0
  obtain rfl : args = #[v0] := by cases args; simp_all
  obtain ⟨rfl, rfl⟩ := trodVars_none hV
  obtain ⟨a0, rfl, rfl, rfl, y0⟩ := open_string Tryd.underlying9 (hval 0 9 v0 rfl rfl) h0
  have w0 : a0.size ≤ 140737488351232 := by
    have z := sized_string hsz (j := 0) (t := 9) rfl rfl
    rw [Array.length_toList] at z
    exact z
  clear hA0 hval0 hsz0 hsz
  refine (walk a0 W (of_laid hL) w0).mono fun e W' ⟨he, bel⟩ => ?_
  subst he
  exact ⟨_, rfl, _, _, _, [], _, [], hW', trodAll_mk1 (shut_bool Tryd.underlying4 _), (trodAll_cons_mk (shut_string Tryd.underlying9 y0) trodAll_mk0), rfl, bel.frame _, fun h => by cases h⟩
theorem row_holds : Rows.FnJpBlockEndSaid :=
  OpenClaim.holds_of_wide 3 Tryd.f3 rfl rfl rfl rfl rfl rfl rfl ⟨rfl, rfl, rfl, rfl, rfl⟩ rfl rfl rfl rfl rfl (by kernel_rfl) Tryd.func3 (by kernel_rfl)
    (of_decide_eq_true (by kernel_rfl)) (by unfold Func.isWrapper; first | (rw [if_pos (by decide +kernel)]; kernel_rfl) | (rw [if_neg (by decide +kernel)]; exact ⟨rfl, rfl⟩))
    (fun os started H enc _ => lifted os started H enc)
theorem proved : Rows.FnJpBlockEndCardSaid :=
  Claim7.holds_tied_plain_at .later [] [.data] true (true, "0510b7cc6bf346a45046d9189d8605a1957a7349475b1015bc5e67b50c08173d") true
    row_holds (fun _ h => by cases h) (by kernel_rfl) (fun _ h => by cases h) fnJpBlockEnd_row_tie rfl ⟨rfl, rfl⟩ (by kernel_rfl) rfl
    (fun f fn hf hfn => by
      obtain rfl : f = 3 := Option.some.inj ((show Tryd.prog.funcNamed "pub-tetrapla/laws.FnJpBlockEnd" = some 3 by kernel_rfl).symm.trans hf) |>.symm
      obtain rfl : fn = Tryd.f3 := (Option.some.inj (Tryd.func3.symm.trans hfn)).symm
      exact ⟨by kernel_rfl, fun j t ht => by
        rw [Tryd.params3] at ht
        have hm : t ∈ [9] := by simpa using Array.mem_of_getElem? ht
        have hall : ([9].all fun u => !Tryd.prog.wantsStandIn u) = true := by kernel_rfl
        exact (show Tryd.prog.wantsStandIn t = false by simpa using List.all_eq_true.1 hall t hm)⟩)
    (by kernel_rfl)
#print axioms proved
end Go.Proofs.YtiecdhkmlpceoaaDoor.fnJpBlockEnd
namespace Go.Proofs.YtiecdhkmlpceoaaDoor
/-- The card, under a short name, for the claim. -/
theorem fnJpBlockEnd_holds : Rows.FnJpBlockEndCardSaid := fnJpBlockEnd.proved
end Go.Proofs.YtiecdhkmlpceoaaDoor
