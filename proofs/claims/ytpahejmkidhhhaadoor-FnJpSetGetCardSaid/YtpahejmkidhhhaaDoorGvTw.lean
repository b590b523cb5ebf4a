/- searchKeys: what it needs of the world, and what its loop keeps. searchKeys: behind an index: the search goes on in the element. -/
import Derived.Test.YtpahejmkidhhhaaDoorGvTf
import Derived.Test.YtpahejmkidhhhaaDoorGvTu
import Derived.Test.YtpahejmkidhhhaaDoorGvAs
import Derived.Lib.LazyBuf
section
namespace Go.Proofs.YtpahejmkidhhhaaDoor.G
set_option linter.unusedVariables false
set_option linter.unusedSimpArgs false
open Go.RowKit Go.Proofs.YtpahejmkidhhhaaDoorW.PrintWords

theorem add_block (a : Addr) (i : Nat) : (a.add i).block = a.block := by unfold Addr.add; split <;> rfl
/-- The variables that the search reads. -/
structure SW (w : World) (E : Nat → Value) : Prop where
  er : ErrT w E
  tab : TabT w
  lt : 15 < w.heap.size
  e8 : ∃ a8, w.cell? ⟨8, 0, none⟩ = some (.iface 158 (.pointer (some a8)))
  e14 : ∃ ev, w.cell? ⟨14, 0, none⟩ = some ev ∧ (ev = .nilIface ∨ ∃ te pe, ev = .iface te pe)
  e15 : ∃ ev, w.cell? ⟨15, 0, none⟩ = some ev ∧ (ev = .nilIface ∨ ∃ te pe, ev = .iface te pe)
theorem TabT.kept {S : Nat → Prop} {w w' : World} (H : TabT w) (K : Kept S w w') (hS : ¬ S 12) : TabT w' :=
  ⟨Nat.lt_of_lt_of_le H.1 K.size, fun i hi => (K.cell H.1 hS).trans (H.2 i hi)⟩
theorem SW.kept {S : Nat → Prop} {w w' : World} {E : Nat → Value} (H : SW w E) (K : Kept S w w') (hS : ∀ k, S k → 15 < k) : SW w' E := by
  have h := H.lt
  have z := fun j (hj : j ≤ 15) => K.cell (B := j) (j := 0) (by omega) (fun hh => by have := hS j hh; omega)
  refine ⟨H.er.kept K (fun k hk => by have := hS k hk; omega), H.tab.kept K (fun hh => by have := hS 12 hh; omega), Nat.lt_of_lt_of_le h K.size, ?_, ?_, ?_⟩
  · obtain ⟨a, ha⟩ := H.e8; exact ⟨a, (z 8 (by omega)).trans ha⟩
  · obtain ⟨a, ha, h2⟩ := H.e14; exact ⟨a, (z 14 (by omega)).trans ha, h2⟩
  · obtain ⟨a, ha, h2⟩ := H.e15; exact ⟨a, (z 15 (by omega)).trans ha, h2⟩
theorem SW.below {w w' : World} {E : Nat → Value} (H : SW w E) (hb : Below w.heap.size w w') : SW w' E := H.kept (S := fun _ => False) (Kept.of hb) (fun _ h => h.elim)
/-- A list of keys. -/
def KeysAt (w : World) (ka : Option Addr) (K : List ByteArray) : Prop :=
  ∀ i, i < K.length → ∃ a, ka = some a ∧ a.block < w.heap.size ∧ w.cell? (a.add i) = some (.string (K.getD i ByteArray.empty))
theorem KeysAt.below {w w' : World} {ka : Option Addr} {K : List ByteArray} (H : KeysAt w ka K) (hb : Below w.heap.size w w') : KeysAt w' ka K := fun i hi => by
  obtain ⟨a, h1, h2, h3⟩ := H i hi
  exact ⟨a, h1, Nat.lt_of_lt_of_le h2 hb.size, by rw [hb.cell (p := a.add i) (by rw [add_block]; exact h2)]; exact h3⟩
theorem add_add (a : Addr) (i j : Nat) : (a.add i).add j = a.add (i + j) := by
  unfold Addr.add
  by_cases hi : i = 0
  · subst hi; simp
  · by_cases hj : j = 0
    · subst hj; simp
    · rw [if_neg hi, if_neg hj, if_neg (by omega)]
      simp [Nat.add_assoc]
theorem KeysAt.drop {w : World} {a : Addr} {K : List ByteArray} (H : KeysAt w (some a) K) (k : Nat) : KeysAt w (some (a.add k)) (K.drop k) := fun i hi => by
  rw [List.length_drop] at hi
  obtain ⟨b, h1, h2, h3⟩ := H (k + i) (by omega)
  obtain rfl := Option.some.inj h1
  refine ⟨_, rfl, by rw [add_block]; exact h2, ?_⟩
  rw [add_add, h3]
  simp [List.getD_eq_getElem?_getD]
/-- What the loop keeps. -/
structure SL (w : World) (h o n c : Nat) (wr : World) : Prop where
  below : Below w.heap.size w wr
  cfg : CfgAt wr w.heap.size
  lt1 : w.heap.size + 1 < wr.heap.size
  dat : wr.cell? ⟨w.heap.size + 1, 0, none⟩ = some (.slice (some ⟨h, o, none⟩) n c)
  buf : BufW wr (w.heap.size + 2) 0 64
theorem SL.step {w wr w' : World} {h o n c : Nat} (H : SL w h o n c wr) (hb : Below wr.heap.size wr w') : SL w h o n c w' :=
  ⟨below_step H.below hb, H.cfg.below hb, Nat.lt_of_lt_of_le H.lt1 hb.size, (hb.cell (p := ⟨w.heap.size + 1, 0, none⟩) H.lt1).trans H.dat, H.buf.below hb⟩
theorem SL.grown {w wr w' : World} {h o n c : Nat} (H : SL w h o n c wr) (hg : wr.grownBy w' (some (w.heap.size + 2))) (hB : BufW w' (w.heap.size + 2) 0 64) : SL w h o n c w' := by
  refine ⟨⟨?_, ?_, ?_, ?_, ?_⟩, H.cfg.grown hg (by omega), Nat.lt_of_lt_of_le H.lt1 hg.size, cell_grown H.dat H.lt1 hg (by omega), hB⟩
  · exact hg.os.trans H.below.os
  · exact hg.tape.trans H.below.tape
  · exact hg.output.trans H.below.output
  · exact Nat.le_trans H.below.size hg.size
  · intro k hk
    have h2 : k < wr.heap.size := Nat.lt_of_lt_of_le hk H.below.size
    rw [hg.block k h2 (by intro e; have := Option.some.inj e; omega)]
    exact H.below.block k hk
theorem SL.drewN {w wr : World} {h o n c : Nat} (H : SL w h o n c wr) (k : Nat) : SL w h o n c (wr.drewN k) := H.step (below_drewN (Below.refl _ _) k)
theorem SL.kept {S : Nat → Prop} {w wr w' : World} {h o n c : Nat} (H : SL w h o n c wr) (K : Kept S wr w') (hS : ∀ k, S k → w.heap.size + 2 < k) : SL w h o n c w' := by
  have z : ∀ j, j ≤ w.heap.size + 2 → ¬ S j := fun j hj hh => by have := hS j hh; omega
  refine ⟨⟨?_, ?_, ?_, ?_, ?_⟩, H.cfg.kept K (z _ (by omega)), Nat.lt_of_lt_of_le H.lt1 K.size, (K.cell H.lt1 (z _ (by omega))).trans H.dat, ⟨Nat.lt_of_lt_of_le H.buf.1 K.size, fun i hi => ?_⟩⟩
  · exact K.os.trans H.below.os
  · exact K.tape.trans H.below.tape
  · exact K.output.trans H.below.output
  · exact Nat.le_trans H.below.size K.size
  · intro k hk
    rw [K.block k (Nat.lt_of_lt_of_le hk H.below.size) (z _ (by omega))]
    exact H.below.block k hk
  · have hb := K.block _ H.buf.1 (z _ (by omega))
    rw [World.cell?_of_block (w := wr) (w' := w') hb, World.frozen?_of_block (w := wr) (w' := w') hb]
    exact H.buf.2 i hi
/-! ### the captured variables, new -/
theorem cell_new (W : World) (v : Value) (t : TypeId) : (W.alloc (.cells #[v] t)).cell? ⟨W.heap.size, 0, none⟩ = some v ∧ (W.alloc (.cells #[v] t)).frozen? ⟨W.heap.size, 0, none⟩ = false := by
  have h := heap_alloc_new W (.cells #[v] t)
  constructor
  · unfold World.cell?; simp only [h]; rfl
  · unfold World.frozen?; simp only [h]; rfl
theorem pick_nil (v : Int) : pick [] v = none := by unfold pick; split <;> rfl
theorem cli_start (w W : World) (h o n c m : Nat) (v : Int) (HS : SL w h o n c W) :
    ClI (W.heap.size + 1) W.heap.size (W.heap.size + 2) (W.heap.size + 3) (w.heap.size + 1) (W.heap.size + 4) h o n c m v []
      (((((W.alloc (.cells #[.int .i64 v] 3)).alloc (.cells #[.int .i64 0] 3)).alloc (.cells #[.slice none 0 0] 54)).alloc (.cells #[.int .i64 0] 3)).alloc (.cells #[.int .i64 (m : Int)] 3)) := by
  obtain ⟨W1, h1⟩ : ∃ X, X = W.alloc (.cells #[.int .i64 v] 3) := ⟨_, rfl⟩
  obtain ⟨W2, h2⟩ : ∃ X, X = W1.alloc (.cells #[.int .i64 0] 3) := ⟨_, rfl⟩
  obtain ⟨W3, h3⟩ : ∃ X, X = W2.alloc (.cells #[.slice none 0 0] 54) := ⟨_, rfl⟩
  obtain ⟨W4, h4⟩ : ∃ X, X = W3.alloc (.cells #[.int .i64 0] 3) := ⟨_, rfl⟩
  obtain ⟨W5, h5⟩ : ∃ X, X = W4.alloc (.cells #[.int .i64 (m : Int)] 3) := ⟨_, rfl⟩
  rw [← h1, ← h2, ← h3, ← h4, ← h5]
  have s1 : W1.heap.size = W.heap.size + 1 := by rw [h1, World.size_alloc]
  have s2 : W2.heap.size = W.heap.size + 2 := by rw [h2, World.size_alloc, s1]
  have s3 : W3.heap.size = W.heap.size + 3 := by rw [h3, World.size_alloc, s2]
  have s4 : W4.heap.size = W.heap.size + 4 := by rw [h4, World.size_alloc, s3]
  have s5 : W5.heap.size = W.heap.size + 5 := by rw [h5, World.size_alloc, s4]
  have b1 : Below W.heap.size W W1 := by rw [h1]; exact below_alloc1 _
  have b2 : Below W1.heap.size W1 W2 := by rw [h2]; exact below_alloc1 _
  have b3 : Below W2.heap.size W2 W3 := by rw [h3]; exact below_alloc1 _
  have b4 : Below W3.heap.size W3 W4 := by rw [h4]; exact below_alloc1 _
  have b5 : Below W4.heap.size W4 W5 := by rw [h5]; exact below_alloc1 _
  have n1 := cell_new W (.int .i64 v) 3
  have n2 := cell_new W1 (.int .i64 0) 3
  have n3 := cell_new W2 (.slice none 0 0) 54
  have n4 := cell_new W3 (.int .i64 0) 3
  have n5 := cell_new W4 (.int .i64 (m : Int)) 3
  rw [← h1] at n1; rw [← h2, s1] at n2; rw [← h3, s2] at n3; rw [← h4, s3] at n4; rw [← h5, s4] at n5
  have e5 := fun (B : Nat) (hB : B < W.heap.size + 4) => b5.cell (p := ⟨B, 0, none⟩) (by rw [s4]; exact hB)
  have e4 := fun (B : Nat) (hB : B < W.heap.size + 3) => b4.cell (p := ⟨B, 0, none⟩) (by rw [s3]; exact hB)
  have e3 := fun (B : Nat) (hB : B < W.heap.size + 2) => b3.cell (p := ⟨B, 0, none⟩) (by rw [s2]; exact hB)
  have e2 := fun (B : Nat) (hB : B < W.heap.size + 1) => b2.cell (p := ⟨B, 0, none⟩) (by rw [s1]; exact hB)
  have e1 := fun (B : Nat) (hB : B < W.heap.size) => b1.cell (p := ⟨B, 0, none⟩) hB
  have f5 := fun (B : Nat) (hB : B < W.heap.size + 4) => World.frozen?_of_block (w := W4) (w' := W5) (a := ⟨B, 0, none⟩) (b5.block B (by rw [s4]; exact hB))
  have f4 := fun (B : Nat) (hB : B < W.heap.size + 3) => World.frozen?_of_block (w := W3) (w' := W4) (a := ⟨B, 0, none⟩) (b4.block B (by rw [s3]; exact hB))
  have f3 := fun (B : Nat) (hB : B < W.heap.size + 2) => World.frozen?_of_block (w := W2) (w' := W3) (a := ⟨B, 0, none⟩) (b3.block B (by rw [s2]; exact hB))
  have l1 := HS.lt1
  refine ⟨by omega, by omega, by omega, by omega, by omega, by omega, ?_, ?_, ?_, ?_, ?_, ?_, ?_, ?_, ?_⟩
  · rw [e5 _ (by omega), e4 _ (by omega), e3 _ (by omega)]; exact n2.1
  · rw [e5 _ (by omega), e4 _ (by omega), e3 _ (by omega), e2 _ (by omega)]; exact n1.1
  · rw [pick_nil, e5 _ (by omega), e4 _ (by omega)]; exact n3.1
  · rw [pick_nil, e5 _ (by omega)]; exact n4.1
  · rw [e5 _ (by omega), e4 _ (by omega), e3 _ (by omega), e2 _ (by omega), e1 _ l1]; exact HS.dat
  · exact n5.1
  · rw [f5 _ (by omega), f4 _ (by omega), f3 _ (by omega)]; exact n2.2
  · rw [f5 _ (by omega), f4 _ (by omega)]; exact n3.2
  · rw [f5 _ (by omega)]; exact n4.2
theorem sl_start5 {w W : World} {h o n c m : Nat} {v : Int} (HS : SL w h o n c W) : SL w h o n c (((((W.alloc (.cells #[.int .i64 v] 3)).alloc (.cells #[.int .i64 0] 3)).alloc (.cells #[.slice none 0 0] 54)).alloc (.cells #[.int .i64 0] 3)).alloc (.cells #[.int .i64 (m : Int)] 3)) :=
  ((((HS.step (below_alloc1 _)).step (below_alloc1 _)).step (below_alloc1 _)).step (below_alloc1 _)).step (below_alloc1 _)
/-! ### the picked element -/
structure CO2 (n : Nat) (cl : Cl) : Prop where
  ok : COk n cl
  fit : cl.off + ((cl.ve - cl.vb : Nat) : Int) ≤ n
theorem cl_ok2 {l : List Int} {off : Nat} (h1 : 1 ≤ off) (ho : off ≤ l.length) (hen : (gi (l.drop off)).en ≠ 0) : CO2 l.length (clOf off (gi (l.drop off))) := by
  have hk := cl_ok h1 ho hen
  refine ⟨hk, ?_⟩
  obtain ⟨b1, b2, b3, b4, b5, b6⟩ := gi_bound (l.drop off)
  rw [List.length_drop] at b2 b5 b6
  by_cases he : (gi (l.drop off)).er = 0
  · obtain ⟨c1, c2, c3, c4, c5⟩ := b5 he
    unfold clOf
    rw [if_pos he]
    simp only []
    omega
  · have hb := hk.bad (by unfold clOf; rw [if_neg he]; exact he)
    have := hk.offn
    rw [hb.1, hb.2]
    simp
    exact this
theorem aeL_ok (l : List Int) : ∀ (f off : Nat), 1 ≤ off → off ≤ l.length → ∀ cl ∈ (aeL l f off).1, CO2 l.length cl
  | 0, off, _, _, cl, hc => by rw [aeL] at hc; cases hc
  | f + 1, off, h1, ho, cl, hc => by
    have hg := gi_bound (l.drop off)
    rw [aeL] at hc
    simp only [] at hc
    split at hc
    · cases hc
    · rename_i hen
      have hk := cl_ok2 h1 ho hen
      split at hc
      · simp at hc; subst hc; exact hk
      · rename_i her
        have h5 := hg.2.2.2.2.1 (by simpa using her)
        rw [List.length_drop] at h5
        split at hc
        · simp at hc; subst hc; exact hk
        · rename_i hq
          split at hc
          · simp at hc; subst hc; exact hk
          · split at hc
            · simp at hc; subst hc; exact hk
            · rcases List.mem_cons.1 hc with rfl | hc
              · exact hk
              · refine aeL_ok l f _ (by omega) ?_ cl hc
                have hb := bl_le (l.drop (off + (gi (l.drop off)).en.toNat))
                rw [List.length_drop] at hb
                omega
theorem aeA_ok {l : List Int} {cl : Cl} (h : cl ∈ aeA l) : CO2 l.length cl := by
  unfold aeA aeW at h
  split at h
  · cases h
  · split at h
    · cases h
    · rename_i hb
      split at h
      · cases h
      · simp only [] at h
        split at h
        · cases h
        · split at h
          · cases h
          · refine aeL_ok l _ _ (by omega) ?_ cl h
            have h1 := bl_le l
            have h2 := bl_le (l.drop (bl l + 1))
            rw [List.length_drop] at h2
            omega
theorem pick_mem {cs : List Cl} {v : Int} {cl : Cl} (h : pick cs v = some cl) : cl ∈ cs := by
  unfold pick at h
  split at h
  · cases h
  · exact List.mem_of_getElem? h
theorem skA_val {sub : List ByteArray → List Int → Int} {K : List ByteArray} {xs : List Int} {m : Nat} {lv v : Int} {cl : Cl} (h o c : Nat) (hm : m ≤ xs.length) (hk : kix (K.getD lv.toNat ByteArray.empty) = some v) (hp : pick (aeA (xs.drop m)) v = some cl) :
    (fV h o m c cl = .slice none 0 0 ∧ skA sub K xs m lv = -1) ∨ ∃ X L C F : Nat, fV h o m c cl = .slice (some ⟨h, o + X, none⟩) L C ∧ oV cl = (F : Int) ∧ X + L ≤ xs.length ∧ (xs.length ≤ c → L ≤ C) ∧ m + F + L ≤ xs.length ∧
      skA sub K xs m lv = (if sub (K.drop (lv.toNat + 1)) ((xs.drop X).take L) < 0 then -1 else (m : Int) + F + sub (K.drop (lv.toNat + 1)) ((xs.drop X).take L)) := by
  have hok := aeA_ok (pick_mem hp)
  rw [List.length_drop] at hok
  have h2 := hok.fit
  have h0 := hok.ok.off0
  have hlen := hok.ok.len
  have hle := hok.ok.le
  by_cases hk1 : cl.kind = 1
  · obtain ⟨s1, s2⟩ := hok.ok.str hk1
    right
    refine ⟨m + (cl.off - 2).toNat, cl.ve - cl.vb + 2, c - (m + (cl.off - 2).toNat), (cl.off - 2).toNat, ?_, ?_, by omega, by omega, by omega, ?_⟩
    · unfold fV; rw [if_pos hk1]
    · unfold oV; rw [if_pos hk1]; omega
    · unfold skA
      rw [hk]; simp only []; rw [hp]; simp only []
      rw [if_pos hk1, List.drop_drop, show (((cl.off - 2).toNat : Nat) : Int) = cl.off - 2 by omega]
  · by_cases he : cl.er = 0
    · right
      refine ⟨m + cl.vb, cl.ve - cl.vb, cl.ve - cl.vb, cl.off.toNat, ?_, ?_, by omega, fun _ => Nat.le_refl _, by omega, ?_⟩
      · unfold fV; rw [if_neg hk1]; unfold clV; rw [if_pos he, Nat.add_assoc]
      · unfold oV; rw [if_neg hk1]; omega
      · unfold skA
        rw [hk]; simp only []; rw [hp]; simp only []
        rw [if_neg hk1, if_neg (by rw [he]; decide), List.drop_drop, show ((cl.off.toNat : Nat) : Int) = cl.off by omega]
    · left
      refine ⟨?_, ?_⟩
      · unfold fV; rw [if_neg hk1]; unfold clV; rw [if_neg he]
      · unfold skA
        rw [hk]; simp only []; rw [hp]; simp only []
        rw [if_neg hk1, if_pos he]
/-! ### what the search finds lies in the text -/
def Bd (r : Int) (n : Nat) : Prop := r = -1 ∨ ∃ s : Nat, s ≤ n ∧ r = s
theorem skA_bound {sub : List ByteArray → List Int → Int} {K : List ByteArray} {xs : List Int} {m : Nat} {lv : Int} (hm : m ≤ xs.length) (hs : ∀ ys, Bd (sub (K.drop (lv.toNat + 1)) ys) ys.length) : Bd (skA sub K xs m lv) xs.length := by
  cases hk : kix (K.getD lv.toNat ByteArray.empty) with
  | none => left; unfold skA; rw [hk]
  | some v =>
    cases hp : pick (aeA (xs.drop m)) v with
    | none => left; unfold skA; rw [hk]; simp only []; rw [hp]
    | some cl =>
      rcases skA_val (sub := sub) (K := K) 0 0 0 hm hk hp with ⟨_, h⟩ | ⟨X, L, C, F, _, _, h1, _, h2, h3⟩
      · exact .inl h
      · rw [h3]
        rcases hs ((xs.drop X).take L) with h | ⟨s, h4, h5⟩
        · rw [h, if_pos (by decide)]; exact .inl rfl
        · rw [h5, if_neg (by omega)]
          rw [List.length_take, List.length_drop] at h4
          exact .inr ⟨m + F + s, by omega, by push_cast; rfl⟩
theorem skS_bound {sub : List ByteArray → List Int → Int} {K : List ByteArray} {xs : List Int} {m : Nat} {lv kl : Int} {lm : Bool} {r : Int} (hm : m < xs.length) (hs : ∀ K' ys, K'.length < K.length → Bd (sub K' ys) ys.length) (hK : K ≠ []) (h : skS sub K xs m lv kl lm = .done r) : Bd r xs.length := by
  unfold skS at h
  simp only [] at h
  split at h
  · rcases se_bound (xs.drop (m + 1)) with h1 | ⟨j, h1, h2, h3⟩
    · rw [if_pos h1] at h; cases h; exact .inl rfl
    · rw [List.length_drop] at h2
      rw [if_neg (by rw [h3]; omega), h3, Int.toNat_natCast] at h
      have hb := bl_le (xs.drop (m + 1 + j))
      rw [List.length_drop] at hb
      split at h
      · cases h; exact .inl rfl
      · split at h
        · split at h
          · cases h; exact .inl rfl
          · split at h
            · cases h; exact .inl rfl
            · split at h
              · split at h
                · split at h
                  · split at h
                    · cases h
                      exact .inr ⟨m + 1 + j + bl (xs.drop (m + 1 + j)) + 1, by omega, by push_cast; rfl⟩
                    · cases h
                  · cases h
                · cases h
              · cases h; exact .inl rfl
        · cases h
  · split at h
    · split at h
      · cases h
      · split at h
        · cases h; exact .inl rfl
        · cases h
    · split at h
      · cases h
      · split at h
        · split at h
          · cases h
            refine skA_bound (by omega) (fun ys => hs _ ys ?_)
            rw [List.length_drop]
            cases K with
            | nil => exact absurd rfl hK
            | cons a l => simp; omega
          · split at h
            · cases h; exact .inl rfl
            · cases h
        · split at h
          · cases h; exact .inl rfl
          · cases h
theorem skL_bound {sub : List ByteArray → List Int → Int} {K : List ByteArray} {xs : List Int} (hs : ∀ K' ys, K'.length < K.length → Bd (sub K' ys) ys.length) (hK : K ≠ []) : ∀ (f m : Nat) (lv kl : Int) (lm : Bool), Bd (skL sub K xs f m lv kl lm) xs.length
  | 0, _, _, _, _ => .inl rfl
  | f + 1, m, lv, kl, lm => by
    rw [skL]
    by_cases hm : m < xs.length
    · rw [if_pos hm]
      cases h : skS sub K xs m lv kl lm with
      | done r => exact skS_bound hm hs hK h
      | go i' lv' kl' lm' => exact skL_bound hs hK f _ _ _ _
    · rw [if_neg hm]; exact .inl rfl
theorem sks_bound : ∀ (N : Nat) (K : List ByteArray) (xs : List Int), K.length ≤ N → Bd (sks K xs) xs.length
  | _, [], xs, _ => .inr ⟨0, Nat.zero_le _, rfl⟩
  | 0, _ :: _, _, h => by simp at h
  | N + 1, k :: K, xs, h => by
    rw [sks_eq _ (by simp)]
    refine skL_bound (fun K' ys hK => sks_bound N K' ys ?_) (by simp) _ _ _ _ _
    simp only [List.length_cons] at hK h
    omega
end Go.Proofs.YtpahejmkidhhhaaDoor.G
end

section
namespace Go.Proofs.YtpahejmkidhhhaaDoor.G
set_option linter.unusedVariables false
set_option linter.unusedSimpArgs false
open Go.RowKit Go.Proofs.YtpahejmkidhhhaaDoorW.PrintWords

theorem bytes_at (s : ByteArray) : ∀ i (hi : i < s.size), (bytesOf s).getD i 0 = ((s[i]'hi).toNat : Int) := by
  intro i hi
  have h2 : i < s.data.toList.length := by simpa using hi
  unfold bytesOf
  rw [List.getD_eq_getElem?_getD, List.getElem?_map, List.getElem?_eq_getElem h2]
  simp
  rfl

/-- The number of the first region of a code. -/
def hdR : Code → Nat
  | .region n _ _ => n
  | .seq x _ => hdR x
  | .block _ x => hdR x
  | .scope x => hdR x
  | .loop x => hdR x
  | _ => 100000
/-- The test with a branch that begins with a region. -/
def brR (n : Nat) : Code → Option Code
  | .cond x t e => if hdR t = n ∨ hdR e = n then some (.cond x t e) else match brR n t with
    | some c => some c
    | none => brR n e
  | .seq x y => match brR n x with
    | some c => some c
    | none => brR n y
  | .block _ x => brR n x
  | .scope x => brR n x
  | .loop x => brR n x
  | _ => none
noncomputable def code81 : Code := ((Tryd.f67.body.bind (brR 81)).getD .skip)
/-- A post at a return alone. -/
def RetOnly (P : Act → World → Prop) : Exit → Act → World → Prop
  | .ret, a, w => P a w
  | _, _, _ => False
def Sub (E : Nat → Value) (K : List ByteArray) : Prop := ∀ (K' : List ByteArray) (ka : Option Addr) (kc h o n c : Nat) (xs : List Int) (w : World), K'.length < K.length → (∀ s ∈ K', s.size ≤ 281474976710656) → K'.length ≤ kc → KeysAt w ka K' → SW w E → RowAt w h o xs → Bytes xs → xs.length = n → n ≤ 140737488351232 → n ≤ c →
  Calls Tryd.prog 67 #[.agg #[.bool false, .bool false, .int .i64 0], .slice (some ⟨h, o, none⟩) n c, .slice ka K'.length kc] w (SKA (sks K' xs) w)
def CSub (w : World) (h X L C : Nat) (ka : Option Addr) (kn kc : Nat) (sv : Int) : Prop := ∀ W, Below w.heap.size w W → Calls Tryd.prog 67 #[.agg #[.bool false, .bool false, .int .i64 0], .slice (some ⟨h, X, none⟩) L C, .slice ka kn kc] W (fun e w' => e = .returned (.int .i64 sv) ∧ Below W.heap.size W w')
set_option maxHeartbeats 8000000 in
set_option maxRecDepth 1000000 in
theorem tail_a (a : Addr) (kn kc h o n c m p B X L C F : Nat) (q : Nat) (w wc : World) (HS : SL w h o n c wc) (c3 : wc.cell? ⟨B + 2, 0, none⟩ = some (.slice (some ⟨h, o + X, none⟩) L C)) (c4 : wc.cell? ⟨B + 3, 0, none⟩ = some (.int .i64 (F : Int))) (hlt : B + 3 < wc.heap.size) (hkp : ¬ kc = p + 1) (CS : CSub wc h (o + X) L C (some (a.add (p + 1))) (kn - (p + 1)) (kc - (p + 1)) (q : Int)) (hkn : kn ≤ 140737488351232) (hn : n ≤ 140737488351232) (hp1 : p + 1 ≤ kn) (hkc : kn ≤ kc) (hFL : m + F + L ≤ n) (hq : q ≤ L)
    (u0 u1 u4 u5 u6 u7 u10 u11 u12 u13 u14 u15 u16 u17 u18 u19 u20 u21 u22 u23 u24 u25 u26 u27 u28 u29 u32 u33 u34 u35 u36 u37 u38 u39 u40 u41 u42 u43 u44 u45 u46 u47 u48 u49 u50 u51 u52 u53 u54 u55 u56 u57 u58 u59 u60 u61 u62 u63 u64 u65 u66 u67 u68 u69 u70 u71 u72 u73 u74 u75 u76 u77 u78 u79 u80 u81 u82 u83 u84 u85 u86 u87 u88 u89 u90 u91 u92 u93 u94 u95 u96 u97 u98 u99 u100 u101 u102 u103 u104 u105 u106 u107 u108 u109 u110 u111 u112 u113 u114 u115 u116 u117 u118 u119 u120 u121 u122 u123 u124 u125 u126 u127 u128 u129 u130 u131 u132 u133 u134 u135 u136 u137 u138 u139 u140 u141 u142 u143 u144 u145 u146 u147 u148 u149 u150 u151 u152 u153 u154 u155 u156 u157 u158 u159 u160 u161 u162 u163 u164 u165 u166 u167 u168 u169 u170 u171 u172 u173 u174 u175 u176 u177 u178 u179 u180 u181 u182 u183 u184 u185 u186 u187 u188 u189 u190 u191 u192 u193 u194 u195 u196 u197 u198 u199 u200 u201 u202 u203 u204 u205 u206 u207 u208 u209 u210 u211 u212 u213 u214 u215 u216 u217 u218 u219 u220 u221 u222 u223 u224 u225 u226 u227 u228 u229 u230 u231 u232 u233 u234 u235 u236 u237 u238 u239 u240 u241 u242 u243 u244 u245 u246 u247 u248 u249 u250 u251 u252 u254 u255 u256 u257 u258 u259 u260 u261 u262 u263 u264 u265 u266 u267 u268 u269 u270 u271 u272 u273 u274 u275 u276 u277 u278 u279 u280 u281 u282 : Value) :
    Code.wp Tryd.prog code81 (RetOnly (bodyPost Tryd.prog Tryd.f67 (SKA ((m : Int) + F + q) w) .ret)) ⟨#[u0, u1, .slice (some a) kn kc, .pointer (some ⟨w.heap.size, 0, none⟩), u4, u5, u6, u7, .int .i64 (p : Int), .int .i64 (m : Int), u10, u11, u12, u13, u14, u15, u16, u17, u18, u19, u20, u21, u22, u23, u24, u25, u26, u27, u28, u29, .pointer (some ⟨B + 2, 0, none⟩), .pointer (some ⟨B + 3, 0, none⟩), u32, u33, u34, u35, u36, u37, u38, u39, u40, u41, u42, u43, u44, u45, u46, u47, u48, u49, u50, u51, u52, u53, u54, u55, u56, u57, u58, u59, u60, u61, u62, u63, u64, u65, u66, u67, u68, u69, u70, u71, u72, u73, u74, u75, u76, u77, u78, u79, u80, u81, u82, u83, u84, u85, u86, u87, u88, u89, u90, u91, u92, u93, u94, u95, u96, u97, u98, u99, u100, u101, u102, u103, u104, u105, u106, u107, u108, u109, u110, u111, u112, u113, u114, u115, u116, u117, u118, u119, u120, u121, u122, u123, u124, u125, u126, u127, u128, u129, u130, u131, u132, u133, u134, u135, u136, u137, u138, u139, u140, u141, u142, u143, u144, u145, u146, u147, u148, u149, u150, u151, u152, u153, u154, u155, u156, u157, u158, u159, u160, u161, u162, u163, u164, u165, u166, u167, u168, u169, u170, u171, u172, u173, u174, u175, u176, u177, u178, u179, u180, u181, u182, u183, u184, u185, u186, u187, u188, u189, u190, u191, u192, u193, u194, u195, u196, u197, u198, u199, u200, u201, u202, u203, u204, u205, u206, u207, u208, u209, u210, u211, u212, u213, u214, u215, u216, u217, u218, u219, u220, u221, u222, u223, u224, u225, u226, u227, u228, u229, u230, u231, u232, u233, u234, u235, u236, u237, u238, u239, u240, u241, u242, u243, u244, u245, u246, u247, u248, u249, u250, u251, u252, .bool false, u254, u255, u256, u257, u258, u259, u260, u261, u262, u263, u264, u265, u266, u267, u268, u269, u270, u271, u272, u273, u274, u275, u276, u277, u278, u279, u280, u281, u282], []⟩ wc := by
  have hp1c : p + 1 ≤ kc := by omega
  have hpw : IntKind.i64.wrap ((p : Int) + 1) = (p : Int) + 1 := by rw [IntKind.wrap_i64]; omega
  have hp0 : (0 : Int) ≤ (p : Int) + 1 := by omega
  have hpk : (p : Int) + 1 ≤ (kn : Int) := by omega
  have hpt : ((p : Int) + 1).toNat = p + 1 := by omega
  have hkpT : (kc = p + 1) = False := eq_false hkp
  have C0 := Aside0.mk CS
  unfold CSub at C0
  have HS := Aside0.mk HS
  have e20 := HS.out.cfg.2.1
  have e21 := HS.out.cfg.2.2.1
  have e22 := HS.out.cfg.2.2.2
  clear hkp CS
  conv => arg 2; whnf
  go_upto_region 81 with fail
  go_region_with (go_at_call 67; refine (C0.out _ (Below.refl _ _).drew).mono ?_; rintro e w3 ⟨rfl, hb3⟩; have c5 := (below_step (Below.refl _ _).drew hb3).cell (p := ⟨B + 3, 0, none⟩) hlt; rw [c4] at c5)
  all_goals go_wp2
  all_goals show bodyPost Tryd.prog Tryd.f67 _ Exit.ret _ _
  all_goals go_ret
  all_goals exact ⟨rfl, ((HS.out.step (Below.refl _ _).drew).step hb3).below⟩
set_option maxHeartbeats 8000000 in
set_option maxRecDepth 1000000 in
theorem tail_b (a : Addr) (kn kc h o n c m p B X L C F : Nat) (w wc : World) (HS : SL w h o n c wc) (c3 : wc.cell? ⟨B + 2, 0, none⟩ = some (.slice (some ⟨h, o + X, none⟩) L C)) (c4 : wc.cell? ⟨B + 3, 0, none⟩ = some (.int .i64 (F : Int))) (hlt : B + 3 < wc.heap.size) (hkp : ¬ kc = p + 1) (CS : CSub wc h (o + X) L C (some (a.add (p + 1))) (kn - (p + 1)) (kc - (p + 1)) (-1)) (hkn : kn ≤ 140737488351232) (hn : n ≤ 140737488351232) (hp1 : p + 1 ≤ kn) (hkc : kn ≤ kc) (hFL : m + F + L ≤ n)
    (u0 u1 u4 u5 u6 u7 u10 u11 u12 u13 u14 u15 u16 u17 u18 u19 u20 u21 u22 u23 u24 u25 u26 u27 u28 u29 u32 u33 u34 u35 u36 u37 u38 u39 u40 u41 u42 u43 u44 u45 u46 u47 u48 u49 u50 u51 u52 u53 u54 u55 u56 u57 u58 u59 u60 u61 u62 u63 u64 u65 u66 u67 u68 u69 u70 u71 u72 u73 u74 u75 u76 u77 u78 u79 u80 u81 u82 u83 u84 u85 u86 u87 u88 u89 u90 u91 u92 u93 u94 u95 u96 u97 u98 u99 u100 u101 u102 u103 u104 u105 u106 u107 u108 u109 u110 u111 u112 u113 u114 u115 u116 u117 u118 u119 u120 u121 u122 u123 u124 u125 u126 u127 u128 u129 u130 u131 u132 u133 u134 u135 u136 u137 u138 u139 u140 u141 u142 u143 u144 u145 u146 u147 u148 u149 u150 u151 u152 u153 u154 u155 u156 u157 u158 u159 u160 u161 u162 u163 u164 u165 u166 u167 u168 u169 u170 u171 u172 u173 u174 u175 u176 u177 u178 u179 u180 u181 u182 u183 u184 u185 u186 u187 u188 u189 u190 u191 u192 u193 u194 u195 u196 u197 u198 u199 u200 u201 u202 u203 u204 u205 u206 u207 u208 u209 u210 u211 u212 u213 u214 u215 u216 u217 u218 u219 u220 u221 u222 u223 u224 u225 u226 u227 u228 u229 u230 u231 u232 u233 u234 u235 u236 u237 u238 u239 u240 u241 u242 u243 u244 u245 u246 u247 u248 u249 u250 u251 u252 u254 u255 u256 u257 u258 u259 u260 u261 u262 u263 u264 u265 u266 u267 u268 u269 u270 u271 u272 u273 u274 u275 u276 u277 u278 u279 u280 u281 u282 : Value) :
    Code.wp Tryd.prog code81 (RetOnly (bodyPost Tryd.prog Tryd.f67 (SKA (-1) w) .ret)) ⟨#[u0, u1, .slice (some a) kn kc, .pointer (some ⟨w.heap.size, 0, none⟩), u4, u5, u6, u7, .int .i64 (p : Int), .int .i64 (m : Int), u10, u11, u12, u13, u14, u15, u16, u17, u18, u19, u20, u21, u22, u23, u24, u25, u26, u27, u28, u29, .pointer (some ⟨B + 2, 0, none⟩), .pointer (some ⟨B + 3, 0, none⟩), u32, u33, u34, u35, u36, u37, u38, u39, u40, u41, u42, u43, u44, u45, u46, u47, u48, u49, u50, u51, u52, u53, u54, u55, u56, u57, u58, u59, u60, u61, u62, u63, u64, u65, u66, u67, u68, u69, u70, u71, u72, u73, u74, u75, u76, u77, u78, u79, u80, u81, u82, u83, u84, u85, u86, u87, u88, u89, u90, u91, u92, u93, u94, u95, u96, u97, u98, u99, u100, u101, u102, u103, u104, u105, u106, u107, u108, u109, u110, u111, u112, u113, u114, u115, u116, u117, u118, u119, u120, u121, u122, u123, u124, u125, u126, u127, u128, u129, u130, u131, u132, u133, u134, u135, u136, u137, u138, u139, u140, u141, u142, u143, u144, u145, u146, u147, u148, u149, u150, u151, u152, u153, u154, u155, u156, u157, u158, u159, u160, u161, u162, u163, u164, u165, u166, u167, u168, u169, u170, u171, u172, u173, u174, u175, u176, u177, u178, u179, u180, u181, u182, u183, u184, u185, u186, u187, u188, u189, u190, u191, u192, u193, u194, u195, u196, u197, u198, u199, u200, u201, u202, u203, u204, u205, u206, u207, u208, u209, u210, u211, u212, u213, u214, u215, u216, u217, u218, u219, u220, u221, u222, u223, u224, u225, u226, u227, u228, u229, u230, u231, u232, u233, u234, u235, u236, u237, u238, u239, u240, u241, u242, u243, u244, u245, u246, u247, u248, u249, u250, u251, u252, .bool false, u254, u255, u256, u257, u258, u259, u260, u261, u262, u263, u264, u265, u266, u267, u268, u269, u270, u271, u272, u273, u274, u275, u276, u277, u278, u279, u280, u281, u282], []⟩ wc := by
  have hp1c : p + 1 ≤ kc := by omega
  have hpw : IntKind.i64.wrap ((p : Int) + 1) = (p : Int) + 1 := by rw [IntKind.wrap_i64]; omega
  have hp0 : (0 : Int) ≤ (p : Int) + 1 := by omega
  have hpk : (p : Int) + 1 ≤ (kn : Int) := by omega
  have hpt : ((p : Int) + 1).toNat = p + 1 := by omega
  have hkpT : (kc = p + 1) = False := eq_false hkp
  have C0 := Aside0.mk CS
  unfold CSub at C0
  have HS := Aside0.mk HS
  have e20 := HS.out.cfg.2.1
  have e21 := HS.out.cfg.2.2.1
  have e22 := HS.out.cfg.2.2.2
  clear hkp CS
  conv => arg 2; whnf
  go_upto_region 81 with fail
  go_region_with (go_at_call 67; refine (C0.out _ (Below.refl _ _).drew).mono ?_; rintro e w3 ⟨rfl, hb3⟩; have c5 := (below_step (Below.refl _ _).drew hb3).cell (p := ⟨B + 3, 0, none⟩) hlt; rw [c4] at c5)
  all_goals go_wp2
  all_goals show bodyPost Tryd.prog Tryd.f67 _ Exit.ret _ _
  all_goals go_ret
  all_goals exact ⟨rfl, ((HS.out.step (Below.refl _ _).drew).step hb3).below⟩
set_option maxHeartbeats 8000000 in
set_option maxRecDepth 1000000 in
theorem tail_c (a : Addr) (h o n c m p B X L C F : Nat) (q : Nat) (w wc : World) (HS : SL w h o n c wc) (c3 : wc.cell? ⟨B + 2, 0, none⟩ = some (.slice (some ⟨h, o + X, none⟩) L C)) (c4 : wc.cell? ⟨B + 3, 0, none⟩ = some (.int .i64 (F : Int))) (hlt : B + 3 < wc.heap.size) (CS : CSub wc h (o + X) L C (some a) 0 0 (q : Int)) (hkn : p + 1 ≤ 140737488351232) (hn : n ≤ 140737488351232) (hFL : m + F + L ≤ n) (hq : q ≤ L)
    (u0 u1 u4 u5 u6 u7 u10 u11 u12 u13 u14 u15 u16 u17 u18 u19 u20 u21 u22 u23 u24 u25 u26 u27 u28 u29 u32 u33 u34 u35 u36 u37 u38 u39 u40 u41 u42 u43 u44 u45 u46 u47 u48 u49 u50 u51 u52 u53 u54 u55 u56 u57 u58 u59 u60 u61 u62 u63 u64 u65 u66 u67 u68 u69 u70 u71 u72 u73 u74 u75 u76 u77 u78 u79 u80 u81 u82 u83 u84 u85 u86 u87 u88 u89 u90 u91 u92 u93 u94 u95 u96 u97 u98 u99 u100 u101 u102 u103 u104 u105 u106 u107 u108 u109 u110 u111 u112 u113 u114 u115 u116 u117 u118 u119 u120 u121 u122 u123 u124 u125 u126 u127 u128 u129 u130 u131 u132 u133 u134 u135 u136 u137 u138 u139 u140 u141 u142 u143 u144 u145 u146 u147 u148 u149 u150 u151 u152 u153 u154 u155 u156 u157 u158 u159 u160 u161 u162 u163 u164 u165 u166 u167 u168 u169 u170 u171 u172 u173 u174 u175 u176 u177 u178 u179 u180 u181 u182 u183 u184 u185 u186 u187 u188 u189 u190 u191 u192 u193 u194 u195 u196 u197 u198 u199 u200 u201 u202 u203 u204 u205 u206 u207 u208 u209 u210 u211 u212 u213 u214 u215 u216 u217 u218 u219 u220 u221 u222 u223 u224 u225 u226 u227 u228 u229 u230 u231 u232 u233 u234 u235 u236 u237 u238 u239 u240 u241 u242 u243 u244 u245 u246 u247 u248 u249 u250 u251 u252 u254 u255 u256 u257 u258 u259 u260 u261 u262 u263 u264 u265 u266 u267 u268 u269 u270 u271 u272 u273 u274 u275 u276 u277 u278 u279 u280 u281 u282 : Value) :
    Code.wp Tryd.prog code81 (RetOnly (bodyPost Tryd.prog Tryd.f67 (SKA ((m : Int) + F + q) w) .ret)) ⟨#[u0, u1, .slice (some a) (p + 1) (p + 1), .pointer (some ⟨w.heap.size, 0, none⟩), u4, u5, u6, u7, .int .i64 (p : Int), .int .i64 (m : Int), u10, u11, u12, u13, u14, u15, u16, u17, u18, u19, u20, u21, u22, u23, u24, u25, u26, u27, u28, u29, .pointer (some ⟨B + 2, 0, none⟩), .pointer (some ⟨B + 3, 0, none⟩), u32, u33, u34, u35, u36, u37, u38, u39, u40, u41, u42, u43, u44, u45, u46, u47, u48, u49, u50, u51, u52, u53, u54, u55, u56, u57, u58, u59, u60, u61, u62, u63, u64, u65, u66, u67, u68, u69, u70, u71, u72, u73, u74, u75, u76, u77, u78, u79, u80, u81, u82, u83, u84, u85, u86, u87, u88, u89, u90, u91, u92, u93, u94, u95, u96, u97, u98, u99, u100, u101, u102, u103, u104, u105, u106, u107, u108, u109, u110, u111, u112, u113, u114, u115, u116, u117, u118, u119, u120, u121, u122, u123, u124, u125, u126, u127, u128, u129, u130, u131, u132, u133, u134, u135, u136, u137, u138, u139, u140, u141, u142, u143, u144, u145, u146, u147, u148, u149, u150, u151, u152, u153, u154, u155, u156, u157, u158, u159, u160, u161, u162, u163, u164, u165, u166, u167, u168, u169, u170, u171, u172, u173, u174, u175, u176, u177, u178, u179, u180, u181, u182, u183, u184, u185, u186, u187, u188, u189, u190, u191, u192, u193, u194, u195, u196, u197, u198, u199, u200, u201, u202, u203, u204, u205, u206, u207, u208, u209, u210, u211, u212, u213, u214, u215, u216, u217, u218, u219, u220, u221, u222, u223, u224, u225, u226, u227, u228, u229, u230, u231, u232, u233, u234, u235, u236, u237, u238, u239, u240, u241, u242, u243, u244, u245, u246, u247, u248, u249, u250, u251, u252, .bool false, u254, u255, u256, u257, u258, u259, u260, u261, u262, u263, u264, u265, u266, u267, u268, u269, u270, u271, u272, u273, u274, u275, u276, u277, u278, u279, u280, u281, u282], []⟩ wc := by
  have hpw : IntKind.i64.wrap ((p : Int) + 1) = (p : Int) + 1 := by rw [IntKind.wrap_i64]; omega
  have hp0 : (0 : Int) ≤ (p : Int) + 1 := by omega
  have hpt : ((p : Int) + 1).toNat = p + 1 := by omega
  have C0 := Aside0.mk CS
  unfold CSub at C0
  have HS := Aside0.mk HS
  have e20 := HS.out.cfg.2.1
  have e21 := HS.out.cfg.2.2.1
  have e22 := HS.out.cfg.2.2.2
  clear CS
  conv => arg 2; whnf
  go_upto_region 81 with fail
  go_region_with (go_at_call 67; refine (C0.out _ (Below.refl _ _).drew).mono ?_; rintro e w3 ⟨rfl, hb3⟩; have c5 := (below_step (Below.refl _ _).drew hb3).cell (p := ⟨B + 3, 0, none⟩) hlt; rw [c4] at c5)
  all_goals go_wp2
  all_goals show bodyPost Tryd.prog Tryd.f67 _ Exit.ret _ _
  all_goals go_ret
  all_goals exact ⟨rfl, ((HS.out.step (Below.refl _ _).drew).step hb3).below⟩
set_option maxHeartbeats 8000000 in
set_option maxRecDepth 1000000 in
theorem tail_d (a : Addr) (h o n c m p B X L C F : Nat) (w wc : World) (HS : SL w h o n c wc) (c3 : wc.cell? ⟨B + 2, 0, none⟩ = some (.slice (some ⟨h, o + X, none⟩) L C)) (c4 : wc.cell? ⟨B + 3, 0, none⟩ = some (.int .i64 (F : Int))) (hlt : B + 3 < wc.heap.size) (CS : CSub wc h (o + X) L C (some a) 0 0 (-1)) (hkn : p + 1 ≤ 140737488351232) (hn : n ≤ 140737488351232) (hFL : m + F + L ≤ n)
    (u0 u1 u4 u5 u6 u7 u10 u11 u12 u13 u14 u15 u16 u17 u18 u19 u20 u21 u22 u23 u24 u25 u26 u27 u28 u29 u32 u33 u34 u35 u36 u37 u38 u39 u40 u41 u42 u43 u44 u45 u46 u47 u48 u49 u50 u51 u52 u53 u54 u55 u56 u57 u58 u59 u60 u61 u62 u63 u64 u65 u66 u67 u68 u69 u70 u71 u72 u73 u74 u75 u76 u77 u78 u79 u80 u81 u82 u83 u84 u85 u86 u87 u88 u89 u90 u91 u92 u93 u94 u95 u96 u97 u98 u99 u100 u101 u102 u103 u104 u105 u106 u107 u108 u109 u110 u111 u112 u113 u114 u115 u116 u117 u118 u119 u120 u121 u122 u123 u124 u125 u126 u127 u128 u129 u130 u131 u132 u133 u134 u135 u136 u137 u138 u139 u140 u141 u142 u143 u144 u145 u146 u147 u148 u149 u150 u151 u152 u153 u154 u155 u156 u157 u158 u159 u160 u161 u162 u163 u164 u165 u166 u167 u168 u169 u170 u171 u172 u173 u174 u175 u176 u177 u178 u179 u180 u181 u182 u183 u184 u185 u186 u187 u188 u189 u190 u191 u192 u193 u194 u195 u196 u197 u198 u199 u200 u201 u202 u203 u204 u205 u206 u207 u208 u209 u210 u211 u212 u213 u214 u215 u216 u217 u218 u219 u220 u221 u222 u223 u224 u225 u226 u227 u228 u229 u230 u231 u232 u233 u234 u235 u236 u237 u238 u239 u240 u241 u242 u243 u244 u245 u246 u247 u248 u249 u250 u251 u252 u254 u255 u256 u257 u258 u259 u260 u261 u262 u263 u264 u265 u266 u267 u268 u269 u270 u271 u272 u273 u274 u275 u276 u277 u278 u279 u280 u281 u282 : Value) :
    Code.wp Tryd.prog code81 (RetOnly (bodyPost Tryd.prog Tryd.f67 (SKA (-1) w) .ret)) ⟨#[u0, u1, .slice (some a) (p + 1) (p + 1), .pointer (some ⟨w.heap.size, 0, none⟩), u4, u5, u6, u7, .int .i64 (p : Int), .int .i64 (m : Int), u10, u11, u12, u13, u14, u15, u16, u17, u18, u19, u20, u21, u22, u23, u24, u25, u26, u27, u28, u29, .pointer (some ⟨B + 2, 0, none⟩), .pointer (some ⟨B + 3, 0, none⟩), u32, u33, u34, u35, u36, u37, u38, u39, u40, u41, u42, u43, u44, u45, u46, u47, u48, u49, u50, u51, u52, u53, u54, u55, u56, u57, u58, u59, u60, u61, u62, u63, u64, u65, u66, u67, u68, u69, u70, u71, u72, u73, u74, u75, u76, u77, u78, u79, u80, u81, u82, u83, u84, u85, u86, u87, u88, u89, u90, u91, u92, u93, u94, u95, u96, u97, u98, u99, u100, u101, u102, u103, u104, u105, u106, u107, u108, u109, u110, u111, u112, u113, u114, u115, u116, u117, u118, u119, u120, u121, u122, u123, u124, u125, u126, u127, u128, u129, u130, u131, u132, u133, u134, u135, u136, u137, u138, u139, u140, u141, u142, u143, u144, u145, u146, u147, u148, u149, u150, u151, u152, u153, u154, u155, u156, u157, u158, u159, u160, u161, u162, u163, u164, u165, u166, u167, u168, u169, u170, u171, u172, u173, u174, u175, u176, u177, u178, u179, u180, u181, u182, u183, u184, u185, u186, u187, u188, u189, u190, u191, u192, u193, u194, u195, u196, u197, u198, u199, u200, u201, u202, u203, u204, u205, u206, u207, u208, u209, u210, u211, u212, u213, u214, u215, u216, u217, u218, u219, u220, u221, u222, u223, u224, u225, u226, u227, u228, u229, u230, u231, u232, u233, u234, u235, u236, u237, u238, u239, u240, u241, u242, u243, u244, u245, u246, u247, u248, u249, u250, u251, u252, .bool false, u254, u255, u256, u257, u258, u259, u260, u261, u262, u263, u264, u265, u266, u267, u268, u269, u270, u271, u272, u273, u274, u275, u276, u277, u278, u279, u280, u281, u282], []⟩ wc := by
  have hpw : IntKind.i64.wrap ((p : Int) + 1) = (p : Int) + 1 := by rw [IntKind.wrap_i64]; omega
  have hp0 : (0 : Int) ≤ (p : Int) + 1 := by omega
  have hpt : ((p : Int) + 1).toNat = p + 1 := by omega
  have C0 := Aside0.mk CS
  unfold CSub at C0
  have HS := Aside0.mk HS
  have e20 := HS.out.cfg.2.1
  have e21 := HS.out.cfg.2.2.1
  have e22 := HS.out.cfg.2.2.2
  clear CS
  conv => arg 2; whnf
  go_upto_region 81 with fail
  go_region_with (go_at_call 67; refine (C0.out _ (Below.refl _ _).drew).mono ?_; rintro e w3 ⟨rfl, hb3⟩; have c5 := (below_step (Below.refl _ _).drew hb3).cell (p := ⟨B + 3, 0, none⟩) hlt; rw [c4] at c5)
  all_goals go_wp2
  all_goals show bodyPost Tryd.prog Tryd.f67 _ Exit.ret _ _
  all_goals go_ret
  all_goals exact ⟨rfl, ((HS.out.step (Below.refl _ _).drew).step hb3).below⟩
end Go.Proofs.YtpahejmkidhhhaaDoor.G
end
