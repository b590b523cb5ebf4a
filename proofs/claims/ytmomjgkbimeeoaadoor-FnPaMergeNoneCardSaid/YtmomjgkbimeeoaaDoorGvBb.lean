/- json-patch: values handed back. -/
import Derived.Test.YtmomjgkbimeeoaaDoorGvBd
namespace Go.Proofs.YtmomjgkbimeeoaaDoor.G
set_option linter.unusedVariables false
set_option linter.unusedSimpArgs false
open Go.RowKit Go.Proofs.YtmomjgkbimeeoaaDoorW.PrintWords

theorem s_eq {s : List Int} (h : ∀ x ∈ s, 0 ≤ x ∧ x ≤ 255) (S : ByteArray) : ((strOfNums s).toList == S.toList) = decide (s = bytesOf S) := by
  have e := bytes_strOf h
  by_cases hk : s = bytesOf S
  · rw [decide_eq_true hk]
    have : strOfNums s = S := bytes_inj (by rw [e, hk])
    rw [this]; simp
  · rw [decide_eq_false hk]
    have : ¬ (strOfNums s).toList = S.toList := by
      intro h2
      rw [ByteArray.toList_eq, ByteArray.toList_eq] at h2
      have h3 : bytesOf (strOfNums s) = bytesOf S := by unfold bytesOf; rw [h2]
      exact hk (e.symm.trans h3)
    simpa using this
theorem leaf_at4 (W : World) (F : Nat → Prop) (k : Int) (t : ByteArray) : NdAt W F (.mk k t [] []) [.int .i64 k, .string t, .slice none 0 0, .slice none 0 0] := by
  unfold NdAt
  exact ⟨_, _, [], rfl, ⟨none, 0, rfl, Nat.le_refl _, rfl, fun i u hi => by simp at hi⟩, ⟨none, 0, rfl, Nat.le_refl _, rfl, fun i u hi => by simp at hi⟩, by unfold NdsAt; rfl⟩
/-- A leaf handed back. -/
theorem leaf_post {fn : Func} {w : World} {k : Int} {t : ByteArray} {n : Nd} {a : Act} (hfn : fn.results = #[.cell 2 47]) (hn : n = .mk k t [] []) (h2 : a.tmps.getD 2 undef = .pointer (some ⟨w.heap.size, 0, none⟩)) (hd : a.defers = []) :
    bodyPost Tryd.prog fn (NdA 0 n w) .ret a (w.alloc (.cells #[.int .i64 k, .string t, .slice none 0 0, .slice none 0 0] 47)) := by
  subst hn
  exact bodyPost_ret (nd_ret hfn h2 (heap_alloc_new _ _)) hd ⟨_, _, _, _, _, _, _, _, rfl, below_alloc1 _, ⟨leaf_at4 _ _ k t⟩⟩
theorem ext_bytes (S : ByteArray) (a b : Nat) : bytesOf (S.extract a b) = ((bytesOf S).drop a).take (b - a) := by
  unfold bytesOf
  rw [← List.map_drop, ← List.map_take]
  congr 1
  simp [ByteArray.data_extract, Array.toList_extract]
theorem lit_eq {s : List Int} (h : ∀ x ∈ s, 0 ≤ x ∧ x ≤ 255) {W : List UInt8} {z : List Int} (hz : bytesOf ⟨W.toArray⟩ = z) : ((strOfNums s).toList == W) = decide (s = z) := by
  have := s_eq h ⟨W.toArray⟩
  rw [hz, ByteArray.toList_eq (⟨W.toArray⟩ : ByteArray)] at this
  exact this
set_option maxHeartbeats 16000000 in
set_option maxRecDepth 100000 in
theorem back_nul (w : World) : Calls Tryd.prog 45 #[.pointer none] w (NdA 0 (.mk 0 noStr [] []) w) := by
  go_enter Tryd.func45, Tryd.ntmps45
  go_wp2_with fail
  exact leaf_post rfl rfl rfl rfl
set_option maxHeartbeats 16000000 in
set_option maxRecDepth 100000 in
theorem back_raw (s : List Int) (F : Nat → Prop) (b rb : Nat) (w : World) (hs : ∀ x ∈ s, 0 ≤ x ∧ x ≤ 255) (hsl : s.length ≤ 140737488355000) (hb : w.heap[b]? = some (.cells #[.pointer (some ⟨rb, 0, none⟩), .pointer none, .pointer none, .int .i64 0] 89)) (hr : RawAt w F rb s) :
    Calls Tryd.prog 45 #[.pointer (some ⟨b, 0, none⟩)] w (NdA 0 (backRaw s) w) := by
  obtain ⟨g, cap, _, _, hrb, hcap, hrow⟩ := hr
  have c0 : w.cell? ⟨rb, 0, none⟩ = some (.slice (some ⟨g, 0, none⟩) s.length cap) := blk_cell hrb rfl
  obtain ⟨b0, b1, b2, b3, bf⟩ := nd_cells hb
  have hbl : b < w.heap.size := (Array.getElem?_eq_some_iff.1 hb).1
  have hrl : rb < w.heap.size := (Array.getElem?_eq_some_iff.1 hrb).1
  have hz := heap_alloc_new w (.cells #[.int .i64 0, .string ⟨#[]⟩, .slice none 0 0, .slice none 0 0] 47)
  have hbW := below_alloc1 (w := w) (.cells #[.int .i64 0, .string ⟨#[]⟩, .slice none 0 0, .slice none 0 0] 47)
  have hcv := run_convert_bytes_arg (P := Tryd.prog) (w.alloc (.cells #[.int .i64 0, .string ⟨#[]⟩, .slice none 0 0, .slice none 0 0] 47)) 92 5 Tryd.underlying92 Tryd.underlying5 g 0 s.length cap s rfl (fun i hi => (hrow.below hbW).2 i (by omega)) 9 Tryd.underlying9
  rw [← hbW.cell (p := ⟨rb, 0, none⟩) hrl] at c0
  rw [← hbW.cell (p := ⟨b, 0, none⟩) hbl] at b0
  rw [← hbW.cell (p := ⟨b, 3, none⟩) hbl] at b3
  have q1 := lit_eq hs (W := [110, 117, 108, 108]) (z := bNull) (by decide)
  have q2 := lit_eq hs (W := [102, 97, 108, 115, 101]) (z := bFalse) (by decide)
  have q3 := lit_eq hs (W := [116, 114, 117, 101]) (z := bTrue) (by decide)
  have HS := Aside0.mk hs
  have HSB := Aside0.mk hsl
  clear hs hsl hb hrb hrow hz hbW b1 b2 bf
  obtain ⟨S, hS⟩ : ∃ S, S = strOfNums s := ⟨_, rfl⟩
  rw [← hS] at hcv q1 q2 q3
  have HSS := Aside0.mk hS
  by_cases h1 : s = bNull
  · rw [decide_eq_true h1] at q1
    have HE : Aside0 (backRaw s = .mk 0 noStr [] []) := ⟨by unfold backRaw; rw [if_pos h1]⟩
    clear h1 hS
    go_enter Tryd.func45, Tryd.ntmps45
    go_wp2_with fail
    rw [HE.out]
    exact leaf_post rfl rfl rfl rfl
  · rw [decide_eq_false h1] at q1
    by_cases h2 : s = bFalse
    · rw [decide_eq_true h2] at q2
      have HE : Aside0 (backRaw s = .mk 1 noStr [] []) := ⟨by unfold backRaw; rw [if_neg h1, if_pos h2]⟩
      clear h1 h2 hS
      go_enter Tryd.func45, Tryd.ntmps45
      go_wp2_with fail
      rw [HE.out]
      exact leaf_post rfl rfl rfl rfl
    · rw [decide_eq_false h2] at q2
      by_cases h3 : s = bTrue
      · rw [decide_eq_true h3] at q3
        have HE : Aside0 (backRaw s = .mk 2 noStr [] []) := ⟨by unfold backRaw; rw [if_neg h1, if_neg h2, if_pos h3]⟩
        clear h1 h2 h3 hS
        go_enter Tryd.func45, Tryd.ntmps45
        go_wp2_with fail
        rw [HE.out]
        exact leaf_post rfl rfl rfl rfl
      · rw [decide_eq_false h3] at q3
        have hsz : S.size = s.length := by rw [← bytesOf_length, hS, bytes_strOf HS.out]
        have hsb : S.size ≤ 140737488355000 := by rw [hsz]; exact HSB.out
        have hbS : bytesOf S = s := by rw [hS, bytes_strOf HS.out]
        have hbk : backRaw s = if 1 < s.length ∧ s.getD 0 0 = 34 then .mk 4 (strOfNums ((s.drop 1).take (s.length - 2))) [] [] else .mk 3 (strOfNums s) [] [] := by
          unfold backRaw; rw [if_neg h1, if_neg h2, if_neg h3]
        by_cases hl : 1 < S.size
        · obtain ⟨m, hm⟩ : ∃ m, S.size = m + 2 := ⟨S.size - 2, by omega⟩
          have h0 : 0 < S.size := by omega
          have hg0 : s.getD 0 0 = (S[0].toNat : Int) := by
            have := rest_cons h0
            unfold rest at this
            rw [List.drop_zero, hbS] at this
            rw [this]; rfl
          by_cases hq : (S[0].toNat : Int) = 34
          · have hqb : ((S[0].toNat : Int) == 34) = true := by rw [hq]; rfl
            have HE : Aside0 (backRaw s = .mk 4 (S.extract 1 (m + 1)) [] []) := ⟨by
              rw [hbk, if_pos ⟨by omega, by rw [hg0]; exact hq⟩]
              congr 1
              apply bytes_inj
              rw [bytes_strOf (fun x hx => HS.out x (List.mem_of_mem_drop (List.mem_of_mem_take hx))), ext_bytes, hbS]
              congr 1
              omega⟩
            clear hbk hg0 hq hbS hsz h1 h2 h3 hS
            go_enter Tryd.func45, Tryd.ntmps45
            go_wp2_with fail
            rw [HE.out]
            exact leaf_post rfl rfl rfl rfl
          · have hqb : ((S[0].toNat : Int) == 34) = false := by simpa using hq
            have HE : Aside0 (backRaw s = .mk 3 S [] []) := ⟨by rw [hbk, if_neg (by rw [hg0]; exact fun h => hq h.2), ← hS]⟩
            clear hbk hg0 hq hbS hsz h1 h2 h3 hS
            go_enter Tryd.func45, Tryd.ntmps45
            go_wp2_with fail
            rw [HE.out]
            exact leaf_post rfl rfl rfl rfl
        · have HE : Aside0 (backRaw s = .mk 3 S [] []) := ⟨by rw [hbk, if_neg (fun h => by omega), ← hS]⟩
          have hlb : ¬ (1 : Int) < (S.size : Int) := by omega
          clear hbk hbS hsz h1 h2 h3 hS
          go_enter Tryd.func45, Tryd.ntmps45
          go_wp2_with fail
          rw [HE.out]
          exact leaf_post rfl rfl rfl rfl
end Go.Proofs.YtmomjgkbimeeoaaDoor.G
