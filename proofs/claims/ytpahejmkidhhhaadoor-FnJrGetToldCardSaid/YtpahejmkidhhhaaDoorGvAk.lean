/- searchKeys' function for arrayEach (81): it picks the element with the index. -/
import Derived.Test.YtpahejmkidhhhaaDoorGvAf
namespace Go.Proofs.YtpahejmkidhhhaaDoor.G
set_option linter.unusedVariables false
set_option linter.unusedSimpArgs false
open Go.RowKit Go.Proofs.YtpahejmkidhhhaaDoorW.PrintWords

theorem pick_at {cs : List Cl} {v : Int} (c : Cl) (h : (cs.length : Int) = v) : pick (cs ++ [c]) v = some c := by
  unfold pick
  rw [if_neg (by omega), show v.toNat = cs.length by omega]
  simp
theorem pick_not {cs : List Cl} {v : Int} (c : Cl) (h : (cs.length : Int) ≠ v) : pick (cs ++ [c]) v = pick cs v := by
  unfold pick
  by_cases h0 : v < 0
  · rw [if_pos h0, if_pos h0]
  · rw [if_neg h0, if_neg h0]
    rcases Nat.lt_or_ge v.toNat cs.length with h1 | h1
    · rw [List.getElem?_append_left h1]
    · have h2 : cs.length < v.toNat := by omega
      rw [List.getElem?_eq_none (by simp; omega), List.getElem?_eq_none (by omega)]
/-- The picked element's bytes, and its offset. -/
def fV (h o i c : Nat) (cl : Cl) : Value := if cl.kind = 1 then .slice (some ⟨h, o + (i + (cl.off - 2).toNat), none⟩) (cl.ve - cl.vb + 2) (c - (i + (cl.off - 2).toNat)) else clV h (o + i) cl
def oV (cl : Cl) : Int := if cl.kind = 1 then cl.off - 2 else cl.off
/-- The captured variables. -/
structure ClI (b1 b2 b3 b4 b5 b6 h o n c i : Nat) (v : Int) (cs : List Cl) (W : World) : Prop where
  lt1 : b1 < W.heap.size
  lt2 : b2 < W.heap.size
  lt3 : b3 < W.heap.size
  lt4 : b4 < W.heap.size
  lt5 : b5 < W.heap.size
  lt6 : b6 < W.heap.size
  c1 : W.cell? ⟨b1, 0, none⟩ = some (.int .i64 (cs.length : Int))
  c2 : W.cell? ⟨b2, 0, none⟩ = some (.int .i64 v)
  c3 : W.cell? ⟨b3, 0, none⟩ = some (match pick cs v with | none => .slice none 0 0 | some cl => fV h o i c cl)
  c4 : W.cell? ⟨b4, 0, none⟩ = some (.int .i64 (match pick cs v with | none => 0 | some cl => oV cl))
  c5 : W.cell? ⟨b5, 0, none⟩ = some (.slice (some ⟨h, o, none⟩) n c)
  c6 : W.cell? ⟨b6, 0, none⟩ = some (.int .i64 (i : Int))
  z1 : W.frozen? ⟨b1, 0, none⟩ = false
  z3 : W.frozen? ⟨b3, 0, none⟩ = false
  z4 : W.frozen? ⟨b4, 0, none⟩ = false
theorem ClI.below {b1 b2 b3 b4 b5 b6 h o n c i : Nat} {v : Int} {cs : List Cl} {W W' : World} (H : ClI b1 b2 b3 b4 b5 b6 h o n c i v cs W) (hb : Below W.heap.size W W') : ClI b1 b2 b3 b4 b5 b6 h o n c i v cs W' := by
  have e := fun (B : Nat) (hB : B < W.heap.size) => hb.cell (p := ⟨B, 0, none⟩) hB
  have z := fun (B : Nat) (hB : B < W.heap.size) => World.frozen?_of_block (w := W) (w' := W') (a := ⟨B, 0, none⟩) (hb.block B hB)
  have s := fun (B : Nat) (hB : B < W.heap.size) => Nat.lt_of_lt_of_le hB hb.size
  exact ⟨s _ H.lt1, s _ H.lt2, s _ H.lt3, s _ H.lt4, s _ H.lt5, s _ H.lt6, (e _ H.lt1).trans H.c1, (e _ H.lt2).trans H.c2, (e _ H.lt3).trans H.c3, (e _ H.lt4).trans H.c4, (e _ H.lt5).trans H.c5, (e _ H.lt6).trans H.c6, (z _ H.lt1).trans H.z1, (z _ H.lt3).trans H.z3, (z _ H.lt4).trans H.z4⟩
theorem Kept.set {S : Nat → Prop} {w w' : World} (H : Kept S w w') {B : Nat} (hB : S B) (v : Value) : Kept S w (w'.setCell ⟨B, 0, none⟩ v) :=
  ⟨H.os, H.tape, H.output, by rw [show (w'.setCell ⟨B, 0, none⟩ v).heap.size = w'.heap.size by simp [World.setCell]]; exact H.size, fun k hk hS => (Below.heap_setCell _ _ _ _ (by rintro rfl; exact hS hB)).trans (H.block k hk hS)⟩
theorem addr_ne {a b : Nat} (h : a ≠ b) : (⟨a, 0, none⟩ : Addr) ≠ ⟨b, 0, none⟩ := fun e => h (congrArg Addr.block e)
/-- One store into a captured variable. -/
structure ClS (b : Nat) (v : Value) (W W' : World) : Prop where
  size : W'.heap.size = W.heap.size
  new : W'.cell? ⟨b, 0, none⟩ = some v
  old : ∀ k, k ≠ b → W'.cell? ⟨k, 0, none⟩ = W.cell? ⟨k, 0, none⟩
  fz : ∀ k, W'.frozen? ⟨k, 0, none⟩ = W.frozen? ⟨k, 0, none⟩
theorem ClS.of {b : Nat} {W : World} {u : Value} (h : W.cell? ⟨b, 0, none⟩ = some u) (v : Value) : ClS b v W (W.setCell ⟨b, 0, none⟩ v) :=
  ⟨by simp [World.setCell], World.cell?_setCell_same' _ _ _ (by rw [h]; rfl), fun k hk => by apply World.cell?_setCell_other; exact addr_ne (Ne.symm hk), fun k => World.frozen?_setCell _ _ _ _⟩
set_option maxHeartbeats 8000000 in
set_option maxRecDepth 100000 in
theorem clo_calls (b1 b2 b3 b4 b5 b6 h o n c i : Nat) (v : Int) (E : Nat → Value) (cs : List Cl) (cl : Cl) (W : World) (H : ClI b1 b2 b3 b4 b5 b6 h o n c i v cs W) (hok : COk (n - i) cl) (hi : i < n) (hnc : n ≤ c) (hn : n ≤ 140737488351232) (hcs : cs.length ≤ 140737488351232)
    (d12 : b1 ≠ b2) (d13 : b1 ≠ b3) (d14 : b1 ≠ b4) (d15 : b1 ≠ b5) (d16 : b1 ≠ b6) (d32 : b3 ≠ b2) (d34 : b3 ≠ b4) (d35 : b3 ≠ b5) (d36 : b3 ≠ b6) (d42 : b4 ≠ b2) (d45 : b4 ≠ b5) (d46 : b4 ≠ b6) :
    Calls Tryd.prog 81 #[clV h (o + i) cl, .int .i64 cl.kind, .int .i64 cl.off, erV E cl.er, .pointer (some ⟨b1, 0, none⟩), .pointer (some ⟨b2, 0, none⟩), .pointer (some ⟨b3, 0, none⟩), .pointer (some ⟨b4, 0, none⟩), .pointer (some ⟨b5, 0, none⟩), .pointer (some ⟨b6, 0, none⟩)] W
      (CBA (fun k => k = b1 ∨ k = b3 ∨ k = b4) (ClI b1 b2 b3 b4 b5 b6 h o n c i v (cs ++ [cl])) W) := by
  have HH := Aside0.mk H
  have h1 := H.c1
  have h2 := H.c2
  have z1 := H.z1
  rcases Decidable.em ((cs.length : Int) = v) with hv | hv
  · have hvb : ((cs.length : Int) == v) = true := by simpa using hv
    have HV := Aside0.mk hv
    have z3 := H.z3
    have z4 := H.z4
    have h5 := H.c5
    have h6 := H.c6
    obtain ⟨x3, hx3⟩ : ∃ x, W.cell? ⟨b3, 0, none⟩ = some x := ⟨_, H.c3⟩
    obtain ⟨x4, hx4⟩ : ∃ x, W.cell? ⟨b4, 0, none⟩ = some x := ⟨_, H.c4⟩
    obtain ⟨V, L, hV⟩ : ∃ a L, clV h (o + i) cl = .slice a L L ∧ L = cl.ve - cl.vb := by
      unfold clV
      by_cases he : cl.er = 0
      · rw [if_pos he]; exact ⟨_, _, rfl, rfl⟩
      · rw [if_neg he]; have := hok.bad he; exact ⟨none, 0, rfl, by omega⟩
    obtain ⟨hV, hL⟩ := hV
    have HVV := Aside0.mk hV
    rw [hV]
    replace hL := Aside0.mk hL
    clear hv H hV
    rcases Decidable.em (cl.kind = 1) with hk | hk
    · obtain ⟨t1, t2⟩ := hok.str hk
      rw [← hL.out] at t2
      obtain ⟨F, hF⟩ : ∃ F : Nat, cl.off = (F : Int) + 2 := ⟨(cl.off - 2).toNat, by omega⟩
      have hFn : i + F + L + 2 ≤ n := by omega
      have hcF : (c = i + F) = False := eq_false (by omega)
      have HF := Aside0.mk hF
      have HK := Aside0.mk hk
      rw [hF, hk]
      clear hk hF t1 t2
      have w4 : ∀ x y z, (((W.setCell ⟨b3, 0, none⟩ x).setCell ⟨b4, 0, none⟩ y).setCell ⟨b4, 0, none⟩ z).cell? ⟨b4, 0, none⟩ = some z := fun x y z => (ClS.of (ClS.of (((ClS.of hx3 x).old _ d34.symm).trans hx4) y).new z).new
      have w3 : ∀ x y z, (((W.setCell ⟨b3, 0, none⟩ x).setCell ⟨b4, 0, none⟩ y).setCell ⟨b4, 0, none⟩ z).cell? ⟨b3, 0, none⟩ = some x := fun x y z => ((ClS.of (ClS.of (((ClS.of hx3 x).old _ d34.symm).trans hx4) y).new z).old _ d34).trans (((ClS.of (((ClS.of hx3 x).old _ d34.symm).trans hx4) y).old _ d34).trans (ClS.of hx3 x).new)
      go_enter Tryd.func81, Tryd.ntmps81
      go_wp2
      go_end0
      have X1 := ClS.of hx3 (.slice V L L)
      have X2 := ClS.of ((X1.old _ d34.symm).trans hx4) (.int .i64 ((F : Int) + 2))
      have X3 := ClS.of X2.new (.int .i64 (F : Int))
      have X4 := ClS.of (w3 (.slice V L L) (.int .i64 ((F : Int) + 2)) (.int .i64 (F : Int))) (.slice (some ⟨h, o + (i + F), none⟩) (i + F + L + 2 - (i + F)) (c - (i + F)))
      have X5 := ClS.of ((X4.old _ d13).trans ((X3.old _ d14).trans ((X2.old _ d14).trans ((X1.old _ d13).trans h1)))) (.int .i64 ((cs.length : Int) + 1))
      refine ⟨rfl, (((((Kept.refl _ _).set (.inr (.inl rfl)) _).set (.inr (.inr rfl)) _).set (.inr (.inr rfl)) _).set (.inr (.inl rfl)) _).set (.inl rfl) _, ?_⟩
      have H := HH.out
      have hp := pick_at cl HV.out
      have hs := X5.size.trans (X4.size.trans (X3.size.trans (X2.size.trans X1.size)))
      have ho := fun k (e1 : k ≠ b1) (e3 : k ≠ b3) (e4 : k ≠ b4) => (X5.old k e1).trans ((X4.old k e3).trans ((X3.old k e4).trans ((X2.old k e4).trans (X1.old k e3))))
      have hz := fun k => (X5.fz k).trans ((X4.fz k).trans ((X3.fz k).trans ((X2.fz k).trans (X1.fz k))))
      refine ⟨by rw [hs]; exact H.lt1, by rw [hs]; exact H.lt2, by rw [hs]; exact H.lt3, by rw [hs]; exact H.lt4, by rw [hs]; exact H.lt5, by rw [hs]; exact H.lt6, ?_, (ho _ d12.symm d32.symm d42.symm).trans H.c2, ?_, ?_, (ho _ d15.symm d35.symm d45.symm).trans H.c5, (ho _ d16.symm d36.symm d46.symm).trans H.c6, (hz _).trans H.z1, (hz _).trans H.z3, (hz _).trans H.z4⟩
      · rw [X5.new]; simp
      · rw [hp]; simp only []; unfold fV
        rw [if_pos HK.out, show (cl.off - 2).toNat = F by rw [HF.out]; omega, ← hL.out]
        refine (X5.old _ d13.symm).trans (X4.new.trans ?_)
        rw [show i + F + L + 2 - (i + F) = L + 2 by omega]
      · rw [hp]; simp only []; unfold oV
        rw [if_pos HK.out, show cl.off - 2 = (F : Int) by rw [HF.out]; omega]
        exact (X5.old _ d14.symm).trans ((X4.old _ d34.symm).trans X3.new)
    · have hkb : (cl.kind == 1) = false := by simpa using hk
      have HK := Aside0.mk hk
      clear hk
      go_enter Tryd.func81, Tryd.ntmps81
      go_wp2
      go_end0
      have X1 := ClS.of hx3 (.slice V L L)
      have X2 := ClS.of ((X1.old _ d34.symm).trans hx4) (.int .i64 cl.off)
      have X3 := ClS.of ((X2.old _ d14).trans ((X1.old _ d13).trans h1)) (.int .i64 ((cs.length : Int) + 1))
      refine ⟨rfl, (((Kept.refl _ _).set (.inr (.inl rfl)) _).set (.inr (.inr rfl)) _).set (.inl rfl) _, ?_⟩
      have H := HH.out
      have hp := pick_at cl HV.out
      have hs := X3.size.trans (X2.size.trans X1.size)
      have ho := fun k (e1 : k ≠ b1) (e3 : k ≠ b3) (e4 : k ≠ b4) => (X3.old k e1).trans ((X2.old k e4).trans (X1.old k e3))
      have hz := fun k => (X3.fz k).trans ((X2.fz k).trans (X1.fz k))
      refine ⟨by rw [hs]; exact H.lt1, by rw [hs]; exact H.lt2, by rw [hs]; exact H.lt3, by rw [hs]; exact H.lt4, by rw [hs]; exact H.lt5, by rw [hs]; exact H.lt6, ?_, (ho _ d12.symm d32.symm d42.symm).trans H.c2, ?_, ?_, (ho _ d15.symm d35.symm d45.symm).trans H.c5, (ho _ d16.symm d36.symm d46.symm).trans H.c6, (hz _).trans H.z1, (hz _).trans H.z3, (hz _).trans H.z4⟩
      · rw [X3.new]; simp
      · rw [hp]; simp only []; unfold fV; rw [if_neg HK.out, HVV.out]; exact (X3.old _ d13.symm).trans ((X2.old _ d34).trans X1.new)
      · rw [hp]; simp only []; unfold oV; rw [if_neg HK.out]; exact (X3.old _ d14.symm).trans X2.new
  · have hvb : ((cs.length : Int) == v) = false := by simpa using hv
    have HV := Aside0.mk hv
    clear hv H
    go_enter Tryd.func81, Tryd.ntmps81
    go_wp2
    go_end0
    refine ⟨rfl, (Kept.refl _ _).set (.inl rfl) _, ?_⟩
    have X := ClS.of HH.out.c1 (.int .i64 ((cs.length : Int) + 1))
    have H := HH.out
    have hp := pick_not cl HV.out
    refine ⟨by rw [X.size]; exact H.lt1, by rw [X.size]; exact H.lt2, by rw [X.size]; exact H.lt3, by rw [X.size]; exact H.lt4, by rw [X.size]; exact H.lt5, by rw [X.size]; exact H.lt6, ?_, (X.old _ d12.symm).trans H.c2, ?_, ?_, (X.old _ d15.symm).trans H.c5, (X.old _ d16.symm).trans H.c6, (X.fz _).trans H.z1, (X.fz _).trans H.z3, (X.fz _).trans H.z4⟩
    · rw [X.new]; simp
    · rw [hp]; exact (X.old _ d13.symm).trans H.c3
    · rw [hp]; exact (X.old _ d14.symm).trans H.c4
end Go.Proofs.YtpahejmkidhhhaaDoor.G
