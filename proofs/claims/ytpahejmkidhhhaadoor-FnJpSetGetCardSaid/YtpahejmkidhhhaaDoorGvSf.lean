/- Set where the keys lead to a value. -/
import Derived.Test.YtpahejmkidhhhaaDoorGvTw
namespace Go.Proofs.YtpahejmkidhhhaaDoor.G
set_option linter.unusedVariables false
set_option linter.unusedSimpArgs false
open Go.RowKit Go.Proofs.YtpahejmkidhhhaaDoorW.PrintWords

def SetA (xs : List Int) (w : World) (en : Ending) (w' : World) : Prop := ∃ B : Nat, en = .returned (.tuple #[.slice (some ⟨B, 0, none⟩) xs.length xs.length, .nilIface]) ∧ Below w.heap.size w w' ∧ Aside0 (RowAt w' B 0 xs)
theorem info5z : (Tryd.prog.info? 5).map (fun i => (i.zero, i.size, i.bytes)) = some (some (.int .u8 0), 1, 1) := by kernel_rfl
theorem make_run (W : World) (l : Int) (L : Nat) (h : l = (L : Int)) (hL : L ≤ 281474976710656) : (Instr.makeSlice 54 (.int .i64 l) (.int .i64 l)).run Tryd.prog W = .ok (.slice (some ⟨W.heap.size, 0, none⟩) L L) (W.alloc (.cells (madeCells #[.int .u8 0] L) 5)) := by
  subst h
  obtain ⟨i0, hi, hz0, hz1, hz2⟩ := parts_info info5z
  have := run_make (P := Tryd.prog) (w := W) 54 5 i0 (.int .u8 0) Tryd.underlying54 hi hz0 .i64 .i64 (L : Int) (L : Int) (by omega) (Int.le_refl _) (by rw [hz2]; omega) (by omega)
  rw [Int.toNat_natCast, hz1, Nat.mul_one] at this
  exact this
set_option maxHeartbeats 8000000 in
set_option maxRecDepth 1000000 in
theorem set1_calls (E : Nat → Value) (g : Ig) (s e d m h o c h2 o2 c2 : Nat) (ka : Option Addr) (kn kc : Nat) (xs vs : List Int) (w : World) (H : RowAt w h o xs) (H2 : RowAt w h2 o2 vs) (hl : xs.length = e + d) (hl2 : vs.length = m) (hn : e + d ≤ 140737488351232) (hm : m ≤ 140737488351232) (hse : s ≤ e) (hd : 1 ≤ d) (hm1 : 1 ≤ m) (hnc : e + d ≤ c) (hmc : m ≤ c2) (hk : 0 < kn)
    (hg : g.er = 0 ∧ g.so = (s : Int) ∧ g.en = (e : Int))
    (hI : ∀ W, Below w.heap.size w W → Calls Tryd.prog 49 #[.agg #[.bool false, .bool false, .int .i64 0], .slice (some ⟨h, o, none⟩) (e + d) c, .slice ka kn kc] W (IGA E g h o W)) :
    Calls Tryd.prog 47 #[.agg #[.bool false, .bool false, .int .i64 0], .slice (some ⟨h, o, none⟩) (e + d) c, .slice (some ⟨h2, o2, none⟩) m c2, .slice ka kn kc] w (SetA (xs.take s ++ vs ++ xs.drop e) w) := by
  have hB0 : Below w.heap.size w (w.alloc (.cells #[.bool false, .bool false, .int .i64 0] 90)) := below_alloc1 _
  have HC := Aside0.mk (cfg_new w 90)
  have g0 := HC.out.2.1
  have g1 := HC.out.2.2.1
  have g2 := HC.out.2.2.2
  have CI := hI _ hB0
  unfold IGA vEr at CI
  rw [hg.1, hg.2.1, hg.2.2, if_pos rfl] at CI
  have CI := Aside0.mk CI
  have HB0 := Aside0.mk hB0
  have HX := Aside0.mk (And.intro H H2)
  have HL := Aside0.mk (And.intro hl hl2)
  have hk1 : ((kn : Int) == 0) = false := by simp; omega
  clear hB0 hI hg H H2 hl hl2 hk
  go_enter Tryd.func47, Tryd.ntmps47
  go_upto_region 95 with (go_at_call 49; refine CI.out.mono ?_; rintro en w1 ⟨v, x, rfl, hb1, hA⟩; obtain ⟨rfl, rfl⟩ := hA.out; clear hA)
  have HM := make_run w1 ((s : Int) + (d : Int) + (m : Int)) (s + d + m) (by push_cast; rfl) (by omega)
  go_upto_region 97 with fail
  clear HM
  have hbV := ((below_step HB0.out hb1).alloc (below_step HB0.out hb1).size (.cells (madeCells #[.int .u8 0] (s + d + m)) 5))
  have hbf := made_buf w1 (s + d + m)
  generalize (w1.alloc (.cells (madeCells #[.int .u8 0] (s + d + m)) 5)) = V1 at hbV hbf ⊢
  have hBge := (below_step HB0.out hb1).size
  generalize w1.heap.size = B at hbf hBge ⊢
  have HBV := Aside0.mk hbV
  have HBG := Aside0.mk hBge
  have hne : h ≠ B ∧ h2 ≠ B := by have h1 := HX.out.1.1; have h2 := HX.out.2.1; omega
  have HNE := Aside0.mk hne
  have O1 := Aside0.mk (OutW.start hbf)
  have HR1 := Aside0.mk (And.intro (HX.out.1.below hbV) (HX.out.2.below hbV))
  have C1 := copy_run V1 B 0 s (s + d + m) h o (s + d + m) s c s xs HR1.out.1 (by rw [HL.out.1]; omega) (by simp) hbf (by omega)
  have c1 := C1.1
  have P1 := Aside0.mk C1.2
  clear hbV hbf hBge hne C1
  go_upto_region 98 with fail
  clear c1
  have O2 := Aside0.mk (O1.out.put rfl P1.out)
  generalize (V1.setCells B 0 ((xs.map (Value.int .u8)).take s)) = V2 at P1 O2 ⊢
  have HR2 := Aside0.mk (And.intro (HR1.out.1.grown P1.out.g HNE.out.1) (HR1.out.2.grown P1.out.g HNE.out.2))
  have C2 := copy_run V2 B s m (s + d + m - s) h2 o2 (s + d + m) m c2 m vs HR2.out.2 (by rw [HL.out.2]; exact Nat.le_refl _) (by simp) O2.out.buf (by omega)
  have c1 := C2.1
  have P2 := Aside0.mk C2.2
  clear C2
  go_upto_region 99 with fail
  clear c1
  have hts : (xs.take s).length = s := by rw [List.length_take, HL.out.1]; omega
  have O3 := Aside0.mk (O2.out.put (j := s) (by rw [List.nil_append]; exact hts) P2.out)
  generalize (V2.setCells B s ((vs.map (Value.int .u8)).take m)) = V3 at P2 O3 ⊢
  have HR3 := Aside0.mk (HR2.out.1.grown P2.out.g HNE.out.1)
  clear hts
  have C3 := copy_run V3 B (s + m) (s + d + m - (s + m)) (s + d + m - (s + m)) h (o + e) (s + d + m) d (c - e) d (xs.drop e) (HR3.out.drop e) (by rw [List.length_drop, HL.out.1]; omega) (by rw [show s + d + m - (s + m) = d by omega]; simp) O3.out.buf (by omega)
  have c1 := C3.1
  have P3 := Aside0.mk C3.2
  clear C3
  go_wp2_with fail
  refine bodyPost_ret (results_tmp2 rfl _ _ _) rfl ?_
  have h1 : ([] ++ xs.take s).length = s := by rw [List.nil_append, List.length_take, HL.out.1]; omega
  have h2 : (vs.take m).length = m := by rw [List.length_take, HL.out.2]; omega
  have P4 := P3.out
  rw [List.map_drop] at P4
  have O4 := O3.out.put (j := s + m) (by rw [List.length_append, h1, h2]) P4
  have he : ([] ++ xs.take s ++ vs.take m) ++ (xs.drop e).take d = xs.take s ++ vs ++ xs.drop e := by
    rw [List.nil_append, List.take_of_length_le (l := vs) (by rw [HL.out.2]; exact Nat.le_refl _), List.take_of_length_le (l := xs.drop e) (by rw [List.length_drop, HL.out.1]; omega)]
  rw [he] at O4
  have hlen : (xs.take s ++ vs ++ xs.drop e).length = s + d + m := by
    rw [List.length_append, List.length_append, List.length_take, List.length_drop, HL.out.1, HL.out.2]; omega
  refine ⟨B, ?_, ?_, ⟨O4.rowAt⟩⟩
  · rw [hlen]; rfl
  · exact HBV.out.grown O4.g (by have := HBV.out.size; exact this) (fun k hk => by cases hk; exact HBG.out)
set_option maxHeartbeats 4000000 in
set_option maxRecDepth 100000 in
theorem set_calls (E : Nat → Value) (xs : List Int) (d v k : Value) (w : World) (hG : GL E w) (hI : Calls Tryd.prog 47 #[.agg #[.bool false, .bool false, .int .i64 0], d, v, k] w (SetA xs w)) : Calls Tryd.prog 31 #[d, v, k] w (SetA xs w) := by
  have C := Aside0.mk hI
  have g0 := hG.cf.2.1
  have g1 := hG.cf.2.2.1
  have g2 := hG.cf.2.2.2
  clear hI hG
  go_enter Tryd.func31, Tryd.ntmps31
  go_wp2_with (go_at_call 47; refine C.out.mono ?_; rintro e w1 ⟨B, rfl, hb, hA⟩)
  refine bodyPost_ret (results_tmp2 rfl _ _ _) rfl ?_
  exact ⟨B, rfl, hb, hA⟩
def JsetA (xs : List Int) (w : World) (e : Ending) (w' : World) : Prop := ∃ out : ByteArray, e = .returned (.tuple #[.string out, .bool true]) ∧ Aside0 (bytesOf out = xs) ∧ Below w.heap.size w w'
set_option maxHeartbeats 8000000 in
set_option maxRecDepth 100000 in
theorem jpSet_calls (E : Nat → Value) (X : List Int) (S V : ByteArray) (k : Value) (w : World) (hG : GL E w) (hs : S.size ≤ 140737488351232) (hv : V.size ≤ 140737488351232) (hX : Bytes X)
    (hI : ∀ W h c h2 c2, Below w.heap.size w W → GL E W → RowAt W h 0 (bytesOf S) → S.size ≤ c → RowAt W h2 0 (bytesOf V) → V.size ≤ c2 → Calls Tryd.prog 47 #[.agg #[.bool false, .bool false, .int .i64 0], .slice (some ⟨h, 0, none⟩) S.size c, .slice (some ⟨h2, 0, none⟩) V.size c2, k] W (SetA X W)) :
    Calls Tryd.prog 20 #[.string S, .string V, k] w (JsetA X w) := by
  have kb := fun W => print_bytes (P := Tryd.prog) 9 54 5 Tryd.underlying9 Tryd.underlying54 Tryd.underlying5 S W
  have kb2 := fun W => print_bytes (P := Tryd.prog) 9 54 5 Tryd.underlying9 Tryd.underlying54 Tryd.underlying5 V W
  obtain ⟨W1, hW1⟩ : ∃ W1, W1 = Lib.bytesWorld w 5 S := ⟨_, rfl⟩
  have hb1 : Below w.heap.size w W1 := by rw [hW1]; exact conv_below w S
  have hr1 : RowAt W1 w.heap.size 0 (bytesOf S) := by rw [hW1]; exact conv_row w S
  have hb2 := conv_below W1 V
  have hr2 := conv_row W1 V
  have hge1 : S.size ≤ grownCap w S.size 0 5 := Nat.le_trans (by omega) (grownCap_ge w S.size 0 5)
  have hge2 : V.size ≤ grownCap W1 V.size 0 5 := Nat.le_trans (by omega) (grownCap_ge W1 V.size 0 5)
  have hbb := below_step hb1 hb2
  have C := set_calls E X (.slice (some ⟨w.heap.size, 0, none⟩) S.size (grownCap w S.size 0 5)) (.slice (some ⟨W1.heap.size, 0, none⟩) V.size (grownCap W1 V.size 0 5)) k (Lib.bytesWorld W1 5 V) (hG.below hbb) (hI _ _ _ _ _ hbb (hG.below hbb) (hr1.below hb2) hge1 hr2 hge2)
  subst hW1
  have C := Aside0.mk C
  have HB := Aside0.mk hbb
  have HX := Aside0.mk hX
  clear hI hG hb1 hr1 hb2 hr2 hge1 hge2 hbb
  go_enter Tryd.func20, Tryd.ntmps20
  go_wp2_with (go_at_call 31; refine C.out.mono ?_; rintro e w2 ⟨B, rfl, hb, hA⟩; have hst := hA.out.string (n := X.length) (c := X.length) rfl)
  refine bodyPost_ret (results_tmp2 rfl _ _ _) rfl ?_
  exact ⟨strOfNums X, rfl, ⟨bytesOf_str HX.out⟩, below_step HB.out hb⟩
end Go.Proofs.YtpahejmkidhhhaaDoor.G
