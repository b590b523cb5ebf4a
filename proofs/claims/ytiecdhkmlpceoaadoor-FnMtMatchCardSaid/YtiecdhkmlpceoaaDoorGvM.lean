/- The reference's terms of a pattern. -/
import Derived.Test.YtiecdhkmlpceoaaDoorGvK
import Derived.Test.YtiecdhkmlpceoaaDoorGvV
namespace Go.Proofs.YtiecdhkmlpceoaaDoor.G
set_option linter.unusedVariables false
set_option linter.unusedSimpArgs false
open Go.RowKit Go.Proofs.YtiecdhkmlpceoaaDoorW.PrintWords
open Go.Lib (decodeL decodeL_N decodeN)

theorem info99 : (Tryd.prog.info? 99).map (fun i => (i.zero, i.size, i.bytes)) = some (some (.agg #[.bool false, .bool false, .int .i64 0]), 3, 16) := by kernel_rfl
def tcells : Tm → List Value
  | .star => [.bool true, .bool false, .int .i64 0]
  | .one => [.bool false, .bool true, .int .i64 0]
  | .lit _ q => [.bool false, .bool false, .int .i64 (chv q)]
def tvals (ts : List Tm) : List Value := (ts.map tcells).flatten
theorem tvals_snoc (ts : List Tm) (t : Tm) : tvals (ts ++ [t]) = tvals ts ++ tcells t := by simp [tvals]
theorem tcells_len (t : Tm) : (tcells t).length = 3 := by cases t <;> rfl
def TRow (w : World) (B : Nat) (v : Value) (ts : List Tm) : Prop := w.ownsRow B 99 3 v ts.length (tvals ts)
def Terms (s : ByteArray) (w : World) (e : Ending) (w' : World) : Prop :=
  ∃ (v : Value) (ok : Bool) (ts : List Tm), e = .returned (.tuple #[v, .bool ok]) ∧ Below w.heap.size w w' ∧ (ok = true → OkT ts ∧ s.data.toList = rend ts ∧ TRow w' w.heap.size v ts)
theorem good_at {s : ByteArray} {m dv dl : Nat} (hlt : m < s.size) (hd : (dv, dl) = decodeL (s.data.toList.drop m)) (hb : ¬ badHead (s.data.toList.drop m) = true) :
    ∃ q, IsChr q ∧ chv q = dv ∧ q.length = dl ∧ s.data.toList.drop m = q ++ s.data.toList.drop (m + dl) ∧ m + dl ≤ s.size ∧ 1 ≤ dl := by
  have hne : s.data.toList.drop m ≠ [] := by
    intro h
    have := congrArg List.length h
    rw [List.length_drop, ← size_list] at this
    simp at this
    omega
  obtain ⟨h1, h2, h3⟩ := chr_head hne (by simpa using hb)
  rw [← hd] at h1 h2 h3
  simp only at h1 h2 h3
  have hql := chr_pos h1
  have hdl : m + dl ≤ s.size := by rw [List.length_drop, ← size_list] at h3; omega
  have hl : ((s.data.toList.drop m).take dl).length = dl := by rw [List.length_take]; omega
  exact ⟨_, h1, by unfold chv; rw [h2], hl, by rw [← List.drop_drop, List.take_append_drop], hdl, by omega⟩
theorem bad_bool {l : List UInt8} {dv dl : Nat} (hd : (dv, dl) = decodeL l) : (dv == 65533 && dl == 1) = badHead l := by unfold badHead; rw [← hd]
theorem tail_bytes {s : ByteArray} {ts : List Tm} {t : Tm} {m m2 : Nat} (hD : s.data.toList = rend ts ++ s.data.toList.drop m) (h2 : s.data.toList.drop m = t.bytes ++ s.data.toList.drop m2) : s.data.toList = rend (ts ++ [t]) ++ s.data.toList.drop m2 := by
  rw [rend_append, List.append_assoc]
  have : rend [t] = t.bytes := by simp [rend]
  rw [this, ← h2]; exact hD
theorem tail_len {ts : List Tm} {t : Tm} {m k : Nat} (hL : (rend ts).length = m ∧ ts.length ≤ m) (hk : t.bytes.length = k) (h1 : 1 ≤ k) : (rend (ts ++ [t])).length = m + k ∧ (ts ++ [t]).length ≤ m + k := by
  rw [rend_append, List.length_append, List.length_append, List.length_singleton]
  have : rend [t] = t.bytes := by simp [rend]
  rw [this]; omega
theorem okT_snoc {ts : List Tm} {t : Tm} (h : OkT ts) (ht : t.ok) : OkT (ts ++ [t]) := by
  intro u hu
  rcases List.mem_append.1 hu with h1 | h1
  · exact h u h1
  · simp at h1; rw [h1]; exact ht
set_option maxHeartbeats 8000000 in
set_option maxRecDepth 100000 in
theorem terms_calls (s : ByteArray) (w : World) (hs : s.size ≤ 65536) : Calls Tryd.prog 43 #[.string s] w (Terms s w) := by
  go_enter Tryd.func43, Tryd.ntmps43
  go_wp2_with fail
  go_loopw [4, 5, 6, 7, 8] (fun v a cc nn kk wr => ∃ (m : Nat) (ts : List Tm), m ≤ s.size ∧ a = .int .i64 m ∧ Aside0 ((rend ts).length = m ∧ ts.length ≤ m) ∧ Aside0 (OkT ts) ∧ Aside0 (s.data.toList = rend ts ++ s.data.toList.drop m) ∧ Aside0 (TRow wr w.heap.size v ts) ∧ Aside0 (Below w.heap.size w wr)) (fun _ a _ _ _ _ => s.size - (intOf a).toNat)
  case atStart => exact ⟨0, [], Nat.zero_le _, rfl, ⟨rfl, Nat.le_refl _⟩, ⟨fun q hq => by simp at hq⟩, ⟨by simp [rend]⟩, ⟨World.ownsRow_nil _ _ _ _⟩, ⟨Below.refl _ _⟩⟩
  case round =>
    obtain ⟨m, ts, hm, rfl, HL, HO, HD, HR, HB⟩ := hrel
    by_cases hlt : m < s.size
    · obtain ⟨d, hd⟩ : ∃ d, d = decodeL (s.data.toList.drop m) := ⟨_, rfl⟩
      have C := Aside0.mk (fun W => chr_calls s m W hlt (by omega))
      rw [← hd] at C
      obtain ⟨dv, dl⟩ := d
      have hbb := bad_bool hd
      by_cases hb : badHead (s.data.toList.drop m) = true
      · rw [hb] at hbb
        clear hd hb
        go_wp2_with (go_at_call 64; refine (C.out _).mono ?_; rintro e w1 ⟨rfl, rfl⟩)
        all_goals go_ret2
        all_goals (unfold Terms; exact ⟨_, false, [], rfl, HB.out, fun h => by cases h⟩)
      · obtain ⟨q, hq, hqv, hql, hdr, hdl, hdl1⟩ := good_at hlt hd hb
        have hbf : badHead (s.data.toList.drop m) = false := by simpa using hb
        rw [hbf] at hbb
        have hcm : Aside0 (ts.length ≤ 65536) := ⟨by have := HL.out.2; omega⟩
        have hBs : Aside0 (w.heap.size ≤ wr.heap.size) := ⟨HB.out.size⟩
        have HRo : Aside0 (wr.ownsRow w.heap.size 99 3 _ ts.length (tvals ts)) := ⟨HR.out⟩
        have HQ := Aside0.mk (And.intro hq (And.intro hqv (And.intro hql hdr)))
        clear hd hb hbf hq hqv hql hdr
        by_cases k42 : dv = 42
        · subst k42
          go_wp2_with (first
            | (go_at_call 64; refine (C.out _).mono ?_; rintro e w1 ⟨rfl, rfl⟩)
            | (at_builtin; refine app_own rfl _ _ 70 99 3 16 _ rfl Tryd.underlying70 info99 rfl (by decide) (by decide) (cells := [.bool true, .bool false, .int .i64 0]) HRo HB hBs rfl (by intro u hu; simp at hu; rcases hu with rfl | rfl | rfl <;> rfl) hcm rfl rfl ?_; intro v' w1 HR1 HB1 hBs1))
          go_roundw
          case rel =>
            obtain ⟨hq, hqv, hql, hdr⟩ := HQ.out
            have hqe : q = [42] := chr_inj hq (ascii_chr (by decide)) (by rw [hqv]; exact (chv_ascii (a := 42) (by decide)).symm)
            exact ⟨m + dl, ts ++ [Tm.star], by omega, by go_num, ⟨tail_len HL.out (by rw [← hql, hqe]; rfl) hdl1⟩, ⟨okT_snoc HO.out (by unfold Tm.ok; trivial)⟩, ⟨tail_bytes HD.out (by rw [hdr, hqe]; rfl)⟩, ⟨by unfold TRow; rw [tvals_snoc, List.length_append]; exact HR1.out⟩, HB1⟩
          case measure => simp [intOf]; omega
        · have n42 : ((dv : Int) == 42) = false := by simp; omega
          by_cases k63 : dv = 63
          · subst k63
            go_wp2_with (first
              | (go_at_call 64; refine (C.out _).mono ?_; rintro e w1 ⟨rfl, rfl⟩)
              | (at_builtin; refine app_own rfl _ _ 70 99 3 16 _ rfl Tryd.underlying70 info99 rfl (by decide) (by decide) (cells := [.bool false, .bool true, .int .i64 0]) HRo HB hBs rfl (by intro u hu; simp at hu; rcases hu with rfl | rfl | rfl <;> rfl) hcm rfl rfl ?_; intro v' w1 HR1 HB1 hBs1))
            go_roundw
            case rel =>
              obtain ⟨hq, hqv, hql, hdr⟩ := HQ.out
              have hqe : q = [63] := chr_inj hq (ascii_chr (by decide)) (by rw [hqv]; exact (chv_ascii (a := 63) (by decide)).symm)
              exact ⟨m + dl, ts ++ [Tm.one], by omega, by go_num, ⟨tail_len HL.out (by rw [← hql, hqe]; rfl) hdl1⟩, ⟨okT_snoc HO.out (by unfold Tm.ok; trivial)⟩, ⟨tail_bytes HD.out (by rw [hdr, hqe]; rfl)⟩, ⟨by unfold TRow; rw [tvals_snoc, List.length_append]; exact HR1.out⟩, HB1⟩
            case measure => simp [intOf]; omega
          · have n63 : ((dv : Int) == 63) = false := by simp; omega
            by_cases k92 : dv = 92
            · subst k92
              have hqe : q = [92] := chr_inj HQ.out.1 (ascii_chr (by decide)) (by rw [HQ.out.2.1]; exact (chv_ascii (a := 92) (by decide)).symm)
              have hd1 : dl = 1 := by rw [← HQ.out.2.2.1, hqe]; rfl
              subst hd1
              by_cases hend : m + 1 = s.size
              · have hendb : ((m : Int) + 1 == (s.size : Int)) = true := by simp; omega
                clear hqe hend
                go_wp2_with (go_at_call 64; refine (C.out _).mono ?_; rintro e w1 ⟨rfl, rfl⟩)
                all_goals go_ret2
                all_goals (unfold Terms; exact ⟨_, false, [], rfl, HB.out, fun h => by cases h⟩)
              · have hendb : ((m : Int) + 1 == (s.size : Int)) = false := by simp; omega
                have hlt2 : m + 1 < s.size := by omega
                obtain ⟨d2, hd2⟩ : ∃ d, d = decodeL (s.data.toList.drop (m + 1)) := ⟨_, rfl⟩
                have C2 := Aside0.mk (fun W => chr_calls s (m + 1) W hlt2 (by omega))
                rw [← hd2, show ((m + 1 : Nat) : Int) = (m : Int) + 1 by omega] at C2
                obtain ⟨dv2, dl2⟩ := d2
                have hbb2 := bad_bool hd2
                have HQE := Aside0.mk hqe
                clear hqe hend
                by_cases hb2 : badHead (s.data.toList.drop (m + 1)) = true
                · rw [hb2] at hbb2
                  clear hd2 hb2
                  go_upto_if 48 with (go_at_call 64; refine (C.out _).mono ?_; rintro e w1 ⟨rfl, rfl⟩)
                  go_wp2_with (go_at_call 64; refine (C2.out _).mono ?_; rintro e w1 ⟨rfl, rfl⟩)
                  all_goals go_ret2
                  all_goals (unfold Terms; exact ⟨_, false, [], rfl, HB.out, fun h => by cases h⟩)
                · obtain ⟨q2, hq2, hqv2, hql2, hdr2, hdl2, hdl12⟩ := good_at hlt2 hd2 hb2
                  have hbf2 : badHead (s.data.toList.drop (m + 1)) = false := by simpa using hb2
                  rw [hbf2] at hbb2
                  have HQ2 := Aside0.mk (And.intro hq2 (And.intro hqv2 (And.intro hql2 hdr2)))
                  clear hd2 hb2 hbf2 hq2 hqv2 hql2 hdr2
                  go_upto_if 48 with (go_at_call 64; refine (C.out _).mono ?_; rintro e w1 ⟨rfl, rfl⟩)
                  go_wp2_with (first
                    | (go_at_call 64; refine (C2.out _).mono ?_; rintro e w1 ⟨rfl, rfl⟩)
                    | (at_builtin; refine app_own rfl _ _ 70 99 3 16 _ rfl Tryd.underlying70 info99 rfl (by decide) (by decide) (cells := [.bool false, .bool false, .int .i64 dv2]) HRo HB hBs rfl (by intro u hu; simp at hu; rcases hu with rfl | rfl | rfl <;> rfl) hcm rfl rfl ?_; intro v' w1 HR1 HB1 hBs1))
                  go_roundw
                  case rel =>
                    obtain ⟨hq, hqv, hql, hdr⟩ := HQ.out
                    obtain ⟨hq2, hqv2, hql2, hdr2⟩ := HQ2.out
                    have hbl : (Tm.lit true q2).bytes.length = 1 + dl2 := by rw [← hql2]; simp [Tm.bytes]; omega
                    have e3 : s.data.toList.drop m = (Tm.lit true q2).bytes ++ s.data.toList.drop (m + (1 + dl2)) := by
                      rw [hdr, hdr2, HQE.out, show m + 1 + dl2 = m + (1 + dl2) by omega]; rfl
                    exact ⟨m + (1 + dl2), ts ++ [.lit true q2], by omega, by go_num, ⟨tail_len HL.out hbl (by omega)⟩, ⟨okT_snoc (t := .lit true q2) HO.out ⟨hq2, fun h => by cases h⟩⟩, ⟨tail_bytes HD.out e3⟩, ⟨by unfold TRow; rw [tvals_snoc, List.length_append]; have := HR1.out; rw [← hqv2] at this; exact this⟩, HB1⟩
                  case measure => simp [intOf]; omega
            · have n92 : ((dv : Int) == 92) = false := by simp; omega
              go_wp2_with (first
                | (go_at_call 64; refine (C.out _).mono ?_; rintro e w1 ⟨rfl, rfl⟩)
                | (at_builtin; refine app_own rfl _ _ 70 99 3 16 _ rfl Tryd.underlying70 info99 rfl (by decide) (by decide) (cells := [.bool false, .bool false, .int .i64 dv]) HRo HB hBs rfl (by intro u hu; simp at hu; rcases hu with rfl | rfl | rfl <;> rfl) hcm rfl rfl ?_; intro v' w1 HR1 HB1 hBs1))
              go_roundw
              case rel =>
                obtain ⟨hq, hqv, hql, hdr⟩ := HQ.out
                exact ⟨m + dl, ts ++ [.lit false q], by omega, by go_num, ⟨tail_len HL.out (by rw [← hql]; rfl) hdl1⟩, ⟨okT_snoc (t := .lit false q) HO.out ⟨hq, fun _ => ⟨fun e => k42 (by rw [← hqv, e]; exact chv_ascii (a := 42) (by decide)), fun e => k63 (by rw [← hqv, e]; exact chv_ascii (a := 63) (by decide)), fun e => k92 (by rw [← hqv, e]; exact chv_ascii (a := 92) (by decide))⟩⟩⟩, ⟨tail_bytes HD.out (by rw [hdr]; rfl)⟩, ⟨by unfold TRow; rw [tvals_snoc, List.length_append]; have := HR1.out; rw [← hqv] at this; exact this⟩, HB1⟩
              case measure => simp [intOf]; omega
    · obtain rfl : m = s.size := by omega
      go_wp2_with fail
      all_goals go_ret2
      all_goals (unfold Terms; exact ⟨_, true, ts, rfl, HB.out, fun _ => ⟨HO.out, by have := HD.out; rw [List.drop_eq_nil_of_le (by rw [← size_list]; exact Nat.le_refl _), List.append_nil] at this; exact this, HR.out⟩⟩)
end Go.Proofs.YtiecdhkmlpceoaaDoor.G
