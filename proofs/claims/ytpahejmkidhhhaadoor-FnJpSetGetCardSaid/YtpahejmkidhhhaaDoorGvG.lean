/- jsonparser's getType: the value that begins at a place. -/
import Derived.Test.YtpahejmkidhhhaaDoorGvN
import Derived.Test.YtpahejmkidhhhaaDoorGvE
import Derived.Laws.BytesArg
namespace Go.Proofs.YtpahejmkidhhhaaDoor.G
set_option linter.unusedVariables false
set_option linter.unusedSimpArgs false
open Go.RowKit Go.Proofs.YtpahejmkidhhhaaDoorW.PrintWords

/-- The variables that hold the errors. -/
structure ErrT (w : World) (E : Nat → Value) : Prop where
  lt : 10 < w.heap.size
  cell : ∀ k, k < 6 → w.cell? ⟨k, 0, none⟩ = some (E k)
  ptr : ∀ k, k < 6 → ∃ a, E k = .iface 158 (.pointer (some a))
theorem ErrT.below {w w' : World} {E : Nat → Value} (H : ErrT w E) (hb : Below w.heap.size w w') : ErrT w' E :=
  ⟨Nat.lt_of_lt_of_le H.lt hb.size, fun k hk => by rw [hb.cell (p := ⟨k, 0, none⟩) (by have := H.lt; show k < _; omega)]; exact H.cell k hk, H.ptr⟩
/-- Four answers. -/
def GTA (E : Nat → Value) (xs : List Int) (h o c m : Nat) (w : World) (e : Ending) (w' : World) : Prop :=
  ∃ (v : Value) (z : Nat) (x : Value), e = .returned (.tuple #[v, .int .i64 (gt xs m).kind, .int .i64 z, x]) ∧ Below w.heap.size w w' ∧
    Aside0 (if (gt xs m).er = 0 then v = .slice (some ⟨h, o + m, none⟩) ((gt xs m).ve - m) (c - m) ∧ z = (gt xs m).ve ∧ x = .nilIface else v = .slice none 0 0 ∧ z = m ∧ x = E ((gt xs m).er - 1))
theorem GTA.err {E : Nat → Value} {xs : List Int} {h o c m : Nat} {w w' : World} {k : Int} {r : Nat} (hg : gt xs m = ⟨k, m, m, r⟩) (hr : r ≠ 0) (hb : Below w.heap.size w w') {x : Value} (hx : x = E (r - 1)) :
    GTA E xs h o c m w (.returned (.tuple #[.slice none 0 0, .int .i64 k, .int .i64 m, x])) w' := by
  refine ⟨.slice none 0 0, m, x, ?_, hb, ⟨?_⟩⟩
  · rw [hg]
  · rw [hg]; simp only []; rw [if_neg hr]; refine ⟨?_, ?_, hx⟩ <;> first | trivial | rfl
theorem GTA.ok {E : Nat → Value} {xs : List Int} {h o c m : Nat} {w w' : World} {k : Int} {z : Nat} (hg : gt xs m = ⟨k, m, z, 0⟩) (hb : Below w.heap.size w w') {v : Value} {zi : Int} (hv : v = .slice (some ⟨h, o + m, none⟩) (z - m) (c - m)) (hz : zi = (z : Int)) :
    GTA E xs h o c m w (.returned (.tuple #[v, .int .i64 k, .int .i64 zi, .nilIface])) w' := by
  refine ⟨v, z, .nilIface, ?_, hb, ⟨?_⟩⟩
  · rw [hg, hz]
  · rw [hg]; simp only [if_true]; refine ⟨hv, ?_, ?_⟩ <;> first | trivial | rfl
theorem results_tmp4 {fn : Func} {t u v x : Tmp} (h : fn.results = #[.tmp t, .tmp u, .tmp v, .tmp x]) (tmps : Array Value) (P : Program) (w : World) :
    (results fn tmps).run P w = .ok (.tuple #[tmps.getD t undef, tmps.getD u undef, tmps.getD v undef, tmps.getD x undef]) w := by
  simp [results, h]
theorem results_tmp5 {fn : Func} {t u v x y : Tmp} (h : fn.results = #[.tmp t, .tmp u, .tmp v, .tmp x, .tmp y]) (tmps : Array Value) (P : Program) (w : World) :
    (results fn tmps).run P w = .ok (.tuple #[tmps.getD t undef, tmps.getD u undef, tmps.getD v undef, tmps.getD x undef, tmps.getD y undef]) w := by
  simp [results, h]
theorem RowAt.take {w : World} {h o : Nat} {xs : List Int} (H : RowAt w h o xs) (k : Nat) : RowAt w h o (xs.take k) :=
  ⟨H.1, fun j hj => by rw [List.length_take] at hj; rw [H.2 j (by omega), getD_take (by omega)]⟩
theorem RowAt.string {w : World} {h o : Nat} {xs : List Int} (H : RowAt w h o xs) {n c : Nat} (hn : xs.length = n) : (convert 54 9 (.slice (some ⟨h, o, none⟩) n c)).run Tryd.prog w = .ok (.string (strOfNums xs)) w :=
  run_convert_bytes_arg w 54 5 Tryd.underlying54 Tryd.underlying5 h o n c xs hn (fun i hi => H.2 i (by omega)) 9 Tryd.underlying9
theorem bytesOf_str {v : List Int} (h : Bytes v) : bytesOf (strOfNums v) = v := by
  unfold bytesOf
  rw [strOfNums_data, List.map_map]
  conv => rhs; rw [← List.map_id v]
  refine List.map_congr_left fun x hx => ?_
  have := h x hx
  simp only [Function.comp, id]
  rw [UInt8.toNat_ofNat']
  omega
theorem str_ne {v : List Int} {W : List UInt8} (h : Bytes v) (hne : v ≠ W.map fun b => (b.toNat : Int)) : ((strOfNums v).toList == W) = false := by
  simp only [beq_eq_false_iff_ne, ne_eq]
  intro he
  apply hne
  rw [ByteArray.toList_eq] at he
  rw [← bytesOf_str h, ← he]; rfl
set_option maxHeartbeats 8000000 in
set_option maxRecDepth 100000 in
theorem getType_calls (E : Nat → Value) (h o n c m : Nat) (xs : List Int) (w : World) (hE : ErrT w E) (H : RowAt w h o xs) (hby : Bytes xs) (hl : xs.length = n) (hn : n ≤ 140737488351232) (hnc : n ≤ c) (hm : m < n) :
    Calls Tryd.prog 68 #[.agg #[.bool false, .bool false, .int .i64 0], .slice (some ⟨h, o, none⟩) n c, .int .i64 m] w (GTA E xs h o c m w) := by
  have HL := Aside0.mk hl
  have HBy := Aside0.mk hby
  have hB0 : Below w.heap.size w (w.alloc (.cells #[.bool false, .bool false, .int .i64 0] 90)) := below_alloc1 _
  have HW := Aside0.mk (H.below hB0)
  have HB0 := Aside0.mk hB0
  have HEr := Aside0.mk (hE.below hB0)
  have hcm : ¬ c = m := by omega
  have hcm' : m ≤ c := by omega
  obtain ⟨x, hx⟩ : ∃ x, x = xs.getD m 0 := ⟨_, rfl⟩
  have hc : w.cell? ⟨h, o + m, none⟩ = some (.int .u8 x) := by rw [hx]; exact H.2 m (by rw [hl]; exact hm)
  have hc' : (w.alloc (.cells #[.bool false, .bool false, .int .i64 0] 90)).cell? ⟨h, o + m, none⟩ = some (.int .u8 x) := by rw [hx]; exact HW.out.2 m (by rw [hl]; exact hm)
  have HC := Aside0.mk (cfg_new w 90)
  have g0 := HC.out.2.1
  have g1 := HC.out.2.2.1
  have g2 := HC.out.2.2.2
  have HX := Aside0.mk hx
  clear hB0 hE H hby hl hx
  by_cases h1 : x = 34
  · subst h1
    have hmn1 : m + 1 ≤ n := by omega
    have hmc1 : m + 1 ≤ c := by omega
    have hwr : IntKind.i64.wrap ((m : Int) + 1) = (m : Int) + 1 := by rw [IntKind.wrap_i64]; omega
    have hdl : (xs.drop (m + 1)).length = n - (m + 1) := by rw [List.length_drop, HL.out]
    have HDL := Aside0.mk hdl
    clear hdl
    have HBD := HBy.out.drop (m + 1)
    rcases se_bound (xs.drop (m + 1)) with hs | ⟨j, hj1, hj2, hs⟩
    · have HG : Aside0 (gt xs m = ⟨1, m, m, 4⟩) := ⟨by unfold gt; rw [if_pos HX.out.symm, if_pos hs]⟩
      obtain ⟨⟨r1, r2⟩, hr⟩ : ∃ r, r = seAt (xs.drop (m + 1)) 0 false := ⟨_, rfl⟩
      have hr1 : r1 = -1 := by rw [← hr] at hs; exact hs
      subst hr1
      have he3 := HEr.out.cell 3 (by omega)
      by_cases hcm1 : c = m + 1
      · have C := Aside0.mk (fun W (hW : RowAt W h o xs) => strEnd_walk false false 0 h o (n - (m + 1)) 0 (xs.drop (m + 1)) W ⟨hW.1, fun j hj => by rw [HDL.out] at hj; omega⟩ HBD HDL.out (by omega) (by omega) _ hr.symm)
        clear hs hr HBD
        go_enter Tryd.func68, Tryd.ntmps68
        go_upto_region 5 with fail
        go_region_with (go_at_call 75; refine (C.out _ (HW.out.below (Below.refl _ _).drew)).mono ?_; rintro e w2 ⟨rfl, hb⟩; have he4 := ((HEr.out.below (Below.refl _ _).drew).below hb).cell 3 (by omega))
        all_goals go_wp2_with fail
        all_goals go_quiet (fail)
        all_goals go_wp2_with fail
        all_goals (try simp only [Exit.inBlock, Exit.then])
        all_goals refine bodyPost_ret (results_tmp4 rfl _ _ _) rfl ?_
        all_goals exact GTA.err HG.out (by decide) (below_drewN (below_step HB0.out.drew hb) _) rfl
      · have C := Aside0.mk (fun W (hW : RowAt W h o xs) => strEnd_walk false false 0 h (o + (m + 1)) (n - (m + 1)) (c - (m + 1)) (xs.drop (m + 1)) W (hW.drop (m + 1)) HBD HDL.out (by omega) (by omega) _ hr.symm)
        clear hs hr HBD
        go_enter Tryd.func68, Tryd.ntmps68
        go_upto_region 5 with fail
        go_region_with (go_at_call 75; refine (C.out _ (HW.out.below (Below.refl _ _).drew)).mono ?_; rintro e w2 ⟨rfl, hb⟩; have he4 := ((HEr.out.below (Below.refl _ _).drew).below hb).cell 3 (by omega))
        all_goals go_wp2_with fail
        all_goals go_quiet (fail)
        all_goals go_wp2_with fail
        all_goals (try simp only [Exit.inBlock, Exit.then])
        all_goals refine bodyPost_ret (results_tmp4 rfl _ _ _) rfl ?_
        all_goals exact GTA.err HG.out (by decide) (below_drewN (below_step HB0.out.drew hb) _) rfl
    · have HG : Aside0 (gt xs m = ⟨1, m, m + 1 + j, 0⟩) := ⟨by unfold gt; rw [if_pos HX.out.symm, hs, if_neg (by omega), Int.toNat_natCast]⟩
      obtain ⟨⟨r1, r2⟩, hr⟩ : ∃ r, r = seAt (xs.drop (m + 1)) 0 false := ⟨_, rfl⟩
      have hr1 : r1 = (j : Int) := by rw [← hr] at hs; exact hs
      subst hr1
      have hjn : m + 1 + j ≤ n := by rw [HDL.out] at hj2; omega
      have hcm1 : ¬ c = m + 1 := by omega
      have hjb : ((j : Int) != -1) = true := by simp
      have C := Aside0.mk (fun W (hW : RowAt W h o xs) => strEnd_walk false false 0 h (o + (m + 1)) (n - (m + 1)) (c - (m + 1)) (xs.drop (m + 1)) W (hW.drop (m + 1)) HBD HDL.out (by omega) (by omega) _ hr.symm)
      clear hs hr HBD hj2
      go_enter Tryd.func68, Tryd.ntmps68
      go_upto_region 5 with fail
      go_region_with (go_at_call 75; refine (C.out _ (HW.out.below (Below.refl _ _).drew)).mono ?_; rintro e w2 ⟨rfl, hb⟩)
      all_goals go_wp2_with fail
      all_goals (try simp only [Exit.inBlock, Exit.then])
      all_goals refine bodyPost_ret (results_tmp4 rfl _ _ _) rfl ?_
      all_goals refine GTA.ok HG.out (below_step HB0.out.drew hb) ?_ ?_
      all_goals first
        | (show Value.slice (some ⟨h, o + m, none⟩) _ (c - m) = _; congr 1; omega)
        | (push_cast; omega)
  · by_cases h91 : x = 91
    · subst h91
      have hmc1 : m ≤ c := by omega
      have hdl : (xs.drop m).length = n - m := by rw [List.length_drop, HL.out]
      have HDL := Aside0.mk hdl
      clear hdl
      have HBD := HBy.out.drop m
      rcases blkAt_bound 91 93 (xs.drop m) with hs | ⟨j, hj1, hj2, hs⟩
      · have HG : Aside0 (gt xs m = ⟨4, m, m, 5⟩) := ⟨by unfold gt; rw [if_neg (by rw [← HX.out]; decide), if_pos HX.out.symm, if_pos hs]⟩
        have he3 := HEr.out.cell 4 (by omega)
        have C := Aside0.mk (fun W (hW : RowAt W h o xs) => blockEnd_walk 91 93 (by omega) (by omega) (by omega) h (o + m) (n - m) (c - m) (xs.drop m) W (hW.drop m) HBD HDL.out (by omega) (by omega) _ hs)
        clear hs HBD
        go_enter Tryd.func68, Tryd.ntmps68
        go_upto_region 11 with fail
        go_region_with (go_at_call 65; refine (C.out _ (HW.out.below (Below.refl _ _).drew)).mono ?_; rintro e w2 ⟨rfl, hb⟩; have he4 := ((HEr.out.below (Below.refl _ _).drew).below hb).cell 4 (by omega))
        all_goals go_wp2_with fail
        all_goals go_quiet (fail)
        all_goals go_wp2_with fail
        all_goals (try simp only [Exit.inBlock, Exit.then])
        all_goals refine bodyPost_ret (results_tmp4 rfl _ _ _) rfl ?_
        all_goals exact GTA.err HG.out (by decide) (below_drewN (below_step HB0.out.drew hb) _) rfl
      · have HG : Aside0 (gt xs m = ⟨4, m, m + j, 0⟩) := ⟨by unfold gt; rw [if_neg (by rw [← HX.out]; decide), if_pos HX.out.symm, hs, if_neg (by omega), Int.toNat_natCast]⟩
        have hjn : m + j ≤ n := by rw [HDL.out] at hj2; omega
        have hjb : ((j : Int) == -1) = false := by simp
        have C := Aside0.mk (fun W (hW : RowAt W h o xs) => blockEnd_walk 91 93 (by omega) (by omega) (by omega) h (o + m) (n - m) (c - m) (xs.drop m) W (hW.drop m) HBD HDL.out (by omega) (by omega) _ hs)
        clear hs HBD hj2
        go_enter Tryd.func68, Tryd.ntmps68
        go_upto_region 11 with fail
        go_region_with (go_at_call 65; refine (C.out _ (HW.out.below (Below.refl _ _).drew)).mono ?_; rintro e w2 ⟨rfl, hb⟩)
        all_goals go_wp2_with fail
        all_goals (try simp only [Exit.inBlock, Exit.then])
        all_goals refine bodyPost_ret (results_tmp4 rfl _ _ _) rfl ?_
        all_goals refine GTA.ok HG.out (below_step HB0.out.drew hb) ?_ ?_
        all_goals first
          | (show Value.slice (some ⟨h, o + m, none⟩) _ (c - m) = _; congr 1; omega)
          | (push_cast; omega)
    · by_cases h123 : x = 123
      · subst h123
        have hmc1 : m ≤ c := by omega
        have hdl : (xs.drop m).length = n - m := by rw [List.length_drop, HL.out]
        have HDL := Aside0.mk hdl
        clear hdl
        have HBD := HBy.out.drop m
        rcases blkAt_bound 123 125 (xs.drop m) with hs | ⟨j, hj1, hj2, hs⟩
        · have HG : Aside0 (gt xs m = ⟨3, m, m, 6⟩) := ⟨by unfold gt; rw [if_neg (by rw [← HX.out]; decide), if_neg (by rw [← HX.out]; decide), if_pos HX.out.symm, if_pos hs]⟩
          have he3 := HEr.out.cell 5 (by omega)
          have C := Aside0.mk (fun W (hW : RowAt W h o xs) => blockEnd_walk 123 125 (by omega) (by omega) (by omega) h (o + m) (n - m) (c - m) (xs.drop m) W (hW.drop m) HBD HDL.out (by omega) (by omega) _ hs)
          clear hs HBD
          go_enter Tryd.func68, Tryd.ntmps68
          go_upto_region 17 with fail
          go_region_with (go_at_call 65; refine (C.out _ (HW.out.below (Below.refl _ _).drew)).mono ?_; rintro e w2 ⟨rfl, hb⟩; have he4 := ((HEr.out.below (Below.refl _ _).drew).below hb).cell 5 (by omega))
          all_goals go_wp2_with fail
          all_goals go_quiet (fail)
          all_goals go_wp2_with fail
          all_goals (try simp only [Exit.inBlock, Exit.then])
          all_goals refine bodyPost_ret (results_tmp4 rfl _ _ _) rfl ?_
          all_goals exact GTA.err HG.out (by decide) (below_drewN (below_step HB0.out.drew hb) _) rfl
        · have HG : Aside0 (gt xs m = ⟨3, m, m + j, 0⟩) := ⟨by unfold gt; rw [if_neg (by rw [← HX.out]; decide), if_neg (by rw [← HX.out]; decide), if_pos HX.out.symm, hs, if_neg (by omega), Int.toNat_natCast]⟩
          have hjn : m + j ≤ n := by rw [HDL.out] at hj2; omega
          have hjb : ((j : Int) == -1) = false := by simp
          have C := Aside0.mk (fun W (hW : RowAt W h o xs) => blockEnd_walk 123 125 (by omega) (by omega) (by omega) h (o + m) (n - m) (c - m) (xs.drop m) W (hW.drop m) HBD HDL.out (by omega) (by omega) _ hs)
          clear hs HBD hj2
          go_enter Tryd.func68, Tryd.ntmps68
          go_upto_region 17 with fail
          go_region_with (go_at_call 65; refine (C.out _ (HW.out.below (Below.refl _ _).drew)).mono ?_; rintro e w2 ⟨rfl, hb⟩)
          all_goals go_wp2_with fail
          all_goals (try simp only [Exit.inBlock, Exit.then])
          all_goals refine bodyPost_ret (results_tmp4 rfl _ _ _) rfl ?_
          all_goals refine GTA.ok HG.out (below_step HB0.out.drew hb) ?_ ?_
          all_goals first
            | (show Value.slice (some ⟨h, o + m, none⟩) _ (c - m) = _; congr 1; omega)
            | (push_cast; omega)
      · have b34 : (x == 34) = false := by simpa using h1
        have b91 : (x == 91) = false := by simpa using h91
        have b123 : (x == 123) = false := by simpa using h123
        obtain ⟨q, hq⟩ : ∃ q, q = te (xs.drop m) := ⟨_, rfl⟩
        have hqn : m + q ≤ n := by have := te_le (xs.drop m); rw [List.length_drop, HL.out] at this; omega
        have hqc : m + q ≤ c := by omega
        have hdl : (xs.drop m).length = n - m := by rw [List.length_drop, HL.out]
        have T := tokEnd_calls h (o + m) (n - m) (c - m) (xs.drop m) _ (HW.out.drop m) hdl (by omega)
        unfold TEA at T
        rw [← hq] at T
        have T := Aside0.mk T
        obtain ⟨v, hv⟩ : ∃ v, v = (xs.drop m).take q := ⟨_, rfl⟩
        have hvl : v.length = q := by rw [hv, List.length_take, hdl]; omega
        have hS := ((HW.out.drop m).take q).string (n := q) (c := c - m) (by rw [← hv]; exact hvl)
        rw [← hv] at hS
        have HQ := Aside0.mk hq
        have HV := Aside0.mk hv
        have HG0 : Aside0 (gt xs m = (if x = 116 ∨ x = 102 then
            if v = wtrue ∨ v = wfalse then ⟨5, m, m + q, 0⟩ else ⟨7, m, m, 2⟩
          else if x = 117 ∨ x = 110 then
            if v = wnull then ⟨6, m, m + q, 0⟩ else ⟨7, m, m, 2⟩
          else if isDg x = true ∨ x = 45 then ⟨2, m, m + q, 0⟩ else ⟨7, m, m, 2⟩)) := ⟨by
            unfold gt
            rw [← HX.out, if_neg h1, if_neg h91, if_neg h123, ← hq, ← hv]⟩
        have he1 := HEr.out.cell 1 (by omega)
        have hvb : Bytes v := by rw [hv]; exact fun y hy => (HBy.out.drop m) y (List.mem_of_mem_take hy)
        clear hq hv hdl h1 h91 h123
        rcases Decidable.em (x = 116 ∨ x = 102) with hw | hw
        · rcases Decidable.em (v = wtrue) with v1 | v1
          · have HG : Aside0 (gt xs m = ⟨5, m, m + q, 0⟩) := ⟨by rw [HG0.out, if_pos hw, if_pos (.inl v1)]⟩
            have hS1 : strOfNums v = ⟨#[116, 114, 117, 101]⟩ := by rw [v1]; rfl
            rw [hS1] at hS
            clear HG0 v1 hS1
            rcases hw with rfl | rfl
            all_goals
              go_enter Tryd.func68, Tryd.ntmps68
              go_wp2_with (go_at_call 82; refine T.out.mono ?_; rintro e w1 ⟨rfl, rfl⟩)
              (try simp only [Exit.inBlock, Exit.then])
              refine bodyPost_ret (results_tmp4 rfl _ _ _) rfl ?_
              refine GTA.ok HG.out HB0.out ?_ ?_
              · show Value.slice (some ⟨h, o + m, none⟩) _ (c - m) = _; congr 1; try omega
              · push_cast; omega
          · rcases Decidable.em (v = wfalse) with v2 | v2
            · have HG : Aside0 (gt xs m = ⟨5, m, m + q, 0⟩) := ⟨by rw [HG0.out, if_pos hw, if_pos (.inr v2)]⟩
              have hS1 : strOfNums v = ⟨#[102, 97, 108, 115, 101]⟩ := by rw [v2]; rfl
              rw [hS1] at hS
              clear HG0 v1 v2 hS1
              rcases hw with rfl | rfl
              all_goals
                go_enter Tryd.func68, Tryd.ntmps68
                go_wp2_with (go_at_call 82; refine T.out.mono ?_; rintro e w1 ⟨rfl, rfl⟩)
                (try simp only [Exit.inBlock, Exit.then])
                refine bodyPost_ret (results_tmp4 rfl _ _ _) rfl ?_
                refine GTA.ok HG.out HB0.out ?_ ?_
                · show Value.slice (some ⟨h, o + m, none⟩) _ (c - m) = _; congr 1; try omega
                · push_cast; omega
            · have HG : Aside0 (gt xs m = ⟨7, m, m, 2⟩) := ⟨by rw [HG0.out, if_pos hw, if_neg (by rintro (h | h); exact v1 h; exact v2 h)]⟩
              have n1 := str_ne (W := [116, 114, 117, 101]) hvb v1
              have n2 := str_ne (W := [102, 97, 108, 115, 101]) hvb v2
              generalize strOfNums v = S at hS n1 n2
              clear HG0 v1 v2
              rcases hw with rfl | rfl
              all_goals
                go_enter Tryd.func68, Tryd.ntmps68
                go_wp2_with (go_at_call 82; refine T.out.mono ?_; rintro e w1 ⟨rfl, rfl⟩)
                go_quiet (fail)
                go_wp2_with fail
                (try simp only [Exit.inBlock, Exit.then])
                refine bodyPost_ret (results_tmp4 rfl _ _ _) rfl ?_
                exact GTA.err HG.out (by decide) (below_drewN HB0.out _) rfl
        · rcases Decidable.em (x = 117 ∨ x = 110) with hu | hu
          · rcases Decidable.em (v = wnull) with v1 | v1
            · have HG : Aside0 (gt xs m = ⟨6, m, m + q, 0⟩) := ⟨by rw [HG0.out, if_neg hw, if_pos hu, if_pos v1]⟩
              have hS1 : strOfNums v = ⟨#[110, 117, 108, 108]⟩ := by rw [v1]; rfl
              rw [hS1] at hS
              clear HG0 v1 hS1 hw
              rcases hu with rfl | rfl
              all_goals
                go_enter Tryd.func68, Tryd.ntmps68
                go_wp2_with (go_at_call 82; refine T.out.mono ?_; rintro e w1 ⟨rfl, rfl⟩)
                (try simp only [Exit.inBlock, Exit.then])
                refine bodyPost_ret (results_tmp4 rfl _ _ _) rfl ?_
                refine GTA.ok HG.out HB0.out ?_ ?_
                · show Value.slice (some ⟨h, o + m, none⟩) _ (c - m) = _; congr 1; try omega
                · push_cast; omega
            · have HG : Aside0 (gt xs m = ⟨7, m, m, 2⟩) := ⟨by rw [HG0.out, if_neg hw, if_pos hu, if_neg v1]⟩
              have n1 := str_ne (W := [110, 117, 108, 108]) hvb v1
              generalize strOfNums v = S at hS n1
              clear HG0 v1 hw
              rcases hu with rfl | rfl
              all_goals
                go_enter Tryd.func68, Tryd.ntmps68
                go_wp2_with (go_at_call 82; refine T.out.mono ?_; rintro e w1 ⟨rfl, rfl⟩)
                go_quiet (fail)
                go_wp2_with fail
                (try simp only [Exit.inBlock, Exit.then])
                refine bodyPost_ret (results_tmp4 rfl _ _ _) rfl ?_
                exact GTA.err HG.out (by decide) (below_drewN HB0.out _) rfl
          · have c1 : (x == 116) = false := by simp; omega
            have c2 : (x == 102) = false := by simp; omega
            have c3 : (x == 117) = false := by simp; omega
            have c4 : (x == 110) = false := by simp; omega
            rcases Decidable.em (isDg x = true ∨ x = 45) with hd | hd
            · have HG : Aside0 (gt xs m = ⟨2, m, m + q, 0⟩) := ⟨by rw [HG0.out, if_neg hw, if_neg hu, if_pos hd]⟩
              have hor : x = 48 ∨ x = 49 ∨ x = 50 ∨ x = 51 ∨ x = 52 ∨ x = 53 ∨ x = 54 ∨ x = 55 ∨ x = 56 ∨ x = 57 ∨ x = 45 := by
                rcases hd with hd | hd
                · unfold isDg at hd; simp only [Bool.and_eq_true, decide_eq_true_eq] at hd; omega
                · omega
              clear HG0 hw hu hd c1 c2 c3 c4 hS
              rcases hor with rfl | rfl | rfl | rfl | rfl | rfl | rfl | rfl | rfl | rfl | rfl
              all_goals
                go_enter Tryd.func68, Tryd.ntmps68
                go_wp2_with (go_at_call 82; refine T.out.mono ?_; rintro e w1 ⟨rfl, rfl⟩)
                (try simp only [Exit.inBlock, Exit.then])
                refine bodyPost_ret (results_tmp4 rfl _ _ _) rfl ?_
                refine GTA.ok HG.out HB0.out ?_ ?_
                · show Value.slice (some ⟨h, o + m, none⟩) _ (c - m) = _; congr 1; try omega
                · push_cast; omega
            · have HG : Aside0 (gt xs m = ⟨7, m, m, 2⟩) := ⟨by rw [HG0.out, if_neg hw, if_neg hu, if_neg hd]⟩
              have hne : ∀ k : Int, 48 ≤ k → k ≤ 57 → (x == k) = false := by
                intro k h1 h2
                simp only [beq_eq_false_iff_ne, ne_eq]
                rintro rfl
                exact hd (.inl (by unfold isDg; simp; omega))
              have d0 := hne 48 (by omega) (by omega)
              have d1 := hne 49 (by omega) (by omega)
              have d2 := hne 50 (by omega) (by omega)
              have d3 := hne 51 (by omega) (by omega)
              have d4 := hne 52 (by omega) (by omega)
              have d5 := hne 53 (by omega) (by omega)
              have d6 := hne 54 (by omega) (by omega)
              have d7 := hne 55 (by omega) (by omega)
              have d8 := hne 56 (by omega) (by omega)
              have d9 := hne 57 (by omega) (by omega)
              have dm : (x == 45) = false := by simp only [beq_eq_false_iff_ne, ne_eq]; exact fun h => hd (.inr h)
              clear HG0 hw hu hd hS hne
              go_enter Tryd.func68, Tryd.ntmps68
              go_wp2_with (go_at_call 82; refine T.out.mono ?_; rintro e w1 ⟨rfl, rfl⟩)
              go_quiet (fail)
              go_wp2_with fail
              (try simp only [Exit.inBlock, Exit.then])
              refine bodyPost_ret (results_tmp4 rfl _ _ _) rfl ?_
              exact GTA.err HG.out (by decide) (below_drewN HB0.out _) rfl
end Go.Proofs.YtpahejmkidhhhaaDoor.G
