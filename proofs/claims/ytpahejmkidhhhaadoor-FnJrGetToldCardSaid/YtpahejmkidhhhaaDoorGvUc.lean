/- jsonparser's unescape. -/
import Derived.Test.YtpahejmkidhhhaaDoorGvUb
import Derived.Test.YtpahejmkidhhhaaDoorGvSk
import Derived.Lib.IndexLaws
namespace Go.Proofs.YtpahejmkidhhhaaDoor.G
set_option linter.unusedVariables false
set_option linter.unusedSimpArgs false
open Go.RowKit Go.Proofs.YtpahejmkidhhhaaDoorW.PrintWords

/-- The first backslash. -/
def fb : List Int → Option Nat
  | [] => none
  | c :: l => if c = 92 then some 0 else (fb l).map (· + 1)
theorem fb_ix : ∀ {l : List Int}, Bytes l → Lib.indexByte (Lib.bytesOf l) 92 = match fb l with | none => -1 | some f => (f : Int)
  | [], _ => rfl
  | c :: l, h => by
    have hc := h c (by simp)
    have ih := fb_ix (l := l) (fun x hx => h x (by simp [hx]))
    have e : Lib.bytesOf (c :: l) = UInt8.ofNat c.toNat :: Lib.bytesOf l := rfl
    rw [e, Lib.indexByte, fb]
    by_cases h92 : c = 92
    · rw [if_pos h92]
      subst h92
      rfl
    · rw [if_neg h92]
      have hb : (UInt8.ofNat c.toNat == 92) = false := by
        simp only [beq_eq_false_iff_ne, ne_eq]
        intro hh
        have := congrArg UInt8.toNat hh
        rw [UInt8.toNat_ofNat'] at this
        have h2 : (92 : UInt8).toNat = 92 := rfl
        omega
      rw [hb, ih]
      cases fb l with
      | none => rfl
      | some f =>
        have : ((f : Int) == -1) = false := by simp
        simp only [this, Option.map_some]
        push_cast
        rfl
theorem fb_none : ∀ {l : List Int}, fb l = none → ue l = some l
  | [], _ => rfl
  | c :: l, h => by
    rw [fb] at h
    by_cases h92 : c = 92
    · rw [if_pos h92] at h; cases h
    · rw [if_neg h92] at h
      have : fb l = none := by cases hf : fb l with | none => rfl | some f => rw [hf] at h; cases h
      rw [ue_other h92, fb_none this]; rfl
theorem fb_some : ∀ {l : List Int} {f : Nat}, fb l = some f → f < l.length ∧ l.getD f 0 = 92 ∧ ue l = (ue (l.drop f)).map (l.take f ++ ·)
  | [], _, h => by cases h
  | c :: l, f, h => by
    rw [fb] at h
    by_cases h92 : c = 92
    · rw [if_pos h92] at h
      cases h
      refine ⟨by simp, by simpa using h92, ?_⟩
      rw [List.drop_zero, List.take_zero]
      generalize ue (c :: l) = z
      cases z <;> rfl
    · rw [if_neg h92] at h
      cases hf : fb l with
      | none => rw [hf] at h; cases h
      | some g =>
        rw [hf] at h
        have hg : g + 1 = f := by simpa using h
        obtain ⟨h1, h2, h3⟩ := fb_some hf
        subst hg
        refine ⟨by simp; omega, by simpa using h2, ?_⟩
        rw [ue_other h92, h3, List.drop_succ_cons, List.take_succ_cons, Option.map_map]
        rfl
theorem ue_bad {l : List Int} {p : Nat} (hp : p < l.length) (h92 : l.getD p 0 = 92) (he : e1 (l.drop p) = none) : ue (l.drop p) = none := by
  have hd := drop_cons' l p hp
  rw [hd] at he ⊢
  rw [ue_esc h92, he]
theorem ue_good {l : List Int} {p k : Nat} {bs : List Int} (hp : p < l.length) (h92 : l.getD p 0 = 92) (he : e1 (l.drop p) = some (k, bs)) : ue (l.drop p) = (ue (l.drop (p + k))).map (bs ++ ·) := by
  have hd := drop_cons' l p hp
  rw [← List.drop_drop]
  rw [hd] at he ⊢
  rw [ue_esc h92, he]
theorem ue_more {l us bs : List Int} {a b : List Int} (h1 : ue l = (ue a).map (us ++ ·)) (h2 : ue a = (ue b).map (bs ++ ·)) : ue l = (ue b).map ((us ++ bs) ++ ·) := by
  rw [h1, h2, Option.map_map]
  congr 1
  funext x
  simp [Function.comp]
/-! ### the writing's worlds -/
theorem RowAt.grown {w w' : World} {B h o : Nat} {xs : List Int} (H : RowAt w h o xs) (g : w.grownBy w' (some B)) (hB : h ≠ B) : RowAt w' h o xs :=
  ⟨Nat.lt_of_lt_of_le H.1 g.size, fun j hj => by rw [World.cell?_of_block (w := w) (w' := w') (g.block h H.1 (by intro e; exact hB (Option.some.inj e)))]; exact H.2 j hj⟩
theorem CfgAt.grown {w w' : World} {B X : Nat} (H : CfgAt w X) (g : w.grownBy w' (some B)) (hB : X ≠ B) : CfgAt w' X := by
  have hb := g.block X H.1 (by intro e; exact hB (Option.some.inj e))
  refine ⟨Nat.lt_of_lt_of_le H.1 g.size, ?_, ?_, ?_⟩ <;> rw [World.cell?_of_block (w := w) (w' := w') hb]
  · exact H.2.1
  · exact H.2.2.1
  · exact H.2.2.2
theorem TabT.grown {w w' : World} {B : Nat} (H : TabT w) (g : w.grownBy w' (some B)) (hB : 12 ≠ B) : TabT w' := by
  have hb := g.block 12 H.1 (by intro e; exact hB (Option.some.inj e))
  exact ⟨Nat.lt_of_lt_of_le H.1 g.size, fun i hi => by rw [World.cell?_of_block (w := w) (w' := w') hb]; exact H.2 i hi⟩
theorem cell_grown {w w' : World} {B X : Nat} {v : Value} (H : w.cell? ⟨X, 0, none⟩ = some v) (hX : X < w.heap.size) (g : w.grownBy w' (some B)) (hB : X ≠ B) : w'.cell? ⟨X, 0, none⟩ = some v := by
  rw [World.cell?_of_block (w := w) (w' := w') (g.block X hX (by intro e; exact hB (Option.some.inj e)))]; exact H
/-- The bytes written so far, and the buffer. -/
structure OutW (w0 wr : World) (B n : Nat) (us : List Int) : Prop where
  g : w0.grownBy wr (some B)
  row : ∀ i, i < us.length → wr.cell? ⟨B, i, none⟩ = some (.int .u8 (us.getD i 0))
  buf : BufW wr B 0 n
theorem OutW.drewN {w0 wr : World} {B n : Nat} {us : List Int} (H : OutW w0 wr B n us) (k : Nat) : OutW w0 (wr.drewN k) B n us := ⟨⟨H.g.os, H.g.tape, H.g.output, H.g.size, H.g.block⟩, H.row, H.buf⟩
theorem BufW.put {w w' : World} {B j n : Nat} {bs : List Int} (H : BufW w B 0 n) (P : Put w w' B j bs) : BufW w' B 0 n := by
  refine ⟨Nat.lt_of_lt_of_le H.1 P.g.size, fun i hi => ⟨?_, ?_⟩⟩
  · by_cases h : j ≤ i ∧ i < j + bs.length
    · have := P.new (i - j) (by omega)
      rw [show j + (i - j) = 0 + i by omega] at this
      rw [this]; rfl
    · rw [show (⟨B, 0 + i, none⟩ : Addr) = ⟨B, i, none⟩ by rw [Nat.zero_add], P.old i (by omega)]
      have := (H.2 i hi).1
      rwa [Nat.zero_add] at this
  · rw [P.fz]; exact (H.2 i hi).2
theorem OutW.put {w0 wr w' : World} {B n j : Nat} {us bs : List Int} (H : OutW w0 wr B n us) (hj : us.length = j) (P : Put wr w' B j bs) : OutW w0 w' B n (us ++ bs) := by
  refine ⟨H.g.trans P.g, fun i hi => ?_, H.buf.put P⟩
  rw [List.length_append] at hi
  by_cases h : i < us.length
  · rw [P.old i (.inl (by omega)), H.row i h]
    simp [List.getD_eq_getElem?_getD, List.getElem?_append_left h]
  · have := P.new (i - us.length) (by omega)
    rw [show j + (i - us.length) = i by omega] at this
    rw [this]
    simp [List.getD_eq_getElem?_getD, List.getElem?_append_right (Nat.le_of_not_lt h)]
theorem OutW.start {w0 : World} {B n : Nat} (H : BufW w0 B 0 n) : OutW w0 w0 B n [] := ⟨World.grownBy.refl _ _, fun i hi => by simp at hi, H⟩
theorem OutW.rowAt {w0 wr : World} {B n : Nat} {us : List Int} (H : OutW w0 wr B n us) : RowAt wr B 0 us := ⟨H.buf.1, fun j hj => by rw [Nat.zero_add]; exact H.row j hj⟩
theorem sl_eq {h a a' l l' c c' : Nat} (h1 : a = a') (h2 : l = l') (h3 : c = c') : Value.slice (some ⟨h, a, none⟩) l c = .slice (some ⟨h, a', none⟩) l' c' := by rw [h1, h2, h3]
theorem info5 : (Tryd.prog.info? 5).map (·.size) = some 1 := by kernel_rfl
/-- copy(out[q:], in[..k]). -/
theorem copy_run (W : World) (B q dL dC h o n sL sC k : Nat) (xs : List Int) (H : RowAt W h o xs) (hk : k ≤ xs.length) (hmin : k = Nat.min sL dL) (hB : BufW W B 0 n) (hq : q + k ≤ n) :
    (Builtin.copy_ #[54, 54] 3 #[.slice (some ⟨B, q, none⟩) dL dC, .slice (some ⟨h, o, none⟩) sL sC]).run Tryd.prog W = .ok (goInt (k : Int)) (W.setCells B q ((xs.map (Value.int .u8)).take k)) ∧ Put W (W.setCells B q ((xs.map (Value.int .u8)).take k)) B q (xs.take k) := by
  rw [← List.map_take]
  have hlen : (xs.take k).length = k := by rw [List.length_take]; omega
  have hsome : ∀ i, i < k → (W.cell? ⟨B, q + i, none⟩).isSome = true := fun i hi => by
    have := (hB.2 (q + i) (by omega)).1
    rwa [Nat.zero_add] at this
  constructor
  · have hr := run_copy_cells (P := Tryd.prog) W 54 54 3 5 B q dL dC ⟨h, o, none⟩ sL sC ((xs.take k).map (Value.int .u8)) Tryd.underlying54 info5 (by rw [List.length_map, hlen]; exact hmin) (fun j v hj => by
        rw [List.getElem?_map] at hj
        have hjk : j < k := by
          rcases Nat.lt_or_ge j k with h1 | h1
          · exact h1
          · rw [List.getElem?_eq_none (by omega)] at hj; cases hj
        have ha : (⟨h, o, none⟩ : Addr).add j = ⟨h, o + j, none⟩ := by unfold Addr.add; split <;> simp_all
        rw [ha, H.2 j (by omega), ← hj, List.getElem?_take, if_pos hjk]
        simp [List.getD_eq_getElem?_getD, List.getElem?_eq_getElem (show j < xs.length by omega)]) (fun j hj => hsome j (by rw [List.length_map, hlen] at hj; exact hj)) (fun j hj => by
        have := (hB.2 (q + j) (by rw [List.length_map, hlen] at hj; omega)).2
        rwa [Nat.zero_add] at this) (by intro v hv; obtain ⟨x, _, rfl⟩ := List.mem_map.1 hv; rfl)
    rw [List.length_map, hlen] at hr
    exact hr
  · exact put_cells (fun i hi => hsome i (by omega))
theorem e1_lt {l : List Int} {k : Nat} {bs : List Int} (h : e1 l = some (k, bs)) : bs.length < k := by
  have h4 := e1_le h
  unfold e1 at h
  by_cases h0 : l.length < 2
  · rw [if_pos h0] at h; cases h
  · rw [if_neg h0] at h
    by_cases h1 : isEs (l.getD 1 0) = true
    · rw [if_pos h1] at h; cases h; simp
    · rw [if_neg h1] at h
      by_cases h2 : l.getD 1 0 = 117
      · rw [if_pos h2] at h
        cases hd : du l with
        | none => rw [hd] at h; cases h
        | some rn =>
          obtain ⟨r, m⟩ := rn
          rw [hd] at h
          simp only [Option.map_some, Option.some.injEq, Prod.mk.injEq] at h
          obtain ⟨rfl, rfl⟩ := h
          have h6 : 6 ≤ m := by
            unfold du at hd
            cases hs : su l with
            | none => rw [hs] at hd; cases hd
            | some a =>
              rw [hs] at hd
              simp only [] at hd
              split at hd
              · cases hd; omega
              · split at hd
                · cases hd; omega
                · split at hd
                  · cases hd; omega
                  · cases hs2 : su (l.drop 6) with
                    | none => rw [hs2] at hd; cases hd
                    | some b =>
                      rw [hs2] at hd
                      simp only [] at hd
                      split at hd
                      · cases hd; omega
                      · cases hd; omega
          omega
      · rw [if_neg h2] at h; cases h
theorem BufW.grown {w w' : World} {D B n : Nat} (H : BufW w B 0 n) (g : w.grownBy w' (some D)) (hB : B ≠ D) : BufW w' B 0 n := by
  have hb := g.block B H.1 (by intro e; exact hB (Option.some.inj e))
  exact ⟨Nat.lt_of_lt_of_le H.1 g.size, fun i hi => ⟨by rw [World.cell?_of_block (w := w) (w' := w') hb]; exact (H.2 i hi).1, by rw [World.frozen?_of_block (w := w) (w' := w') hb]; exact (H.2 i hi).2⟩⟩
theorem grownM {w W0 w' : World} {D B : Nat} (hb0 : Below w.heap.size w W0) (hD : w.heap.size ≤ D) (g : W0.grownBy w' (some D)) : w.grownBy w' (some B) :=
  ⟨g.os.trans hb0.os, g.tape.trans hb0.tape, g.output.trans hb0.output, Nat.le_trans hb0.size g.size, fun k hk _ => (g.block k (Nat.lt_of_lt_of_le hk hb0.size) (by intro e; have := Option.some.inj e; omega)).trans (hb0.block k hk)⟩
theorem bufM {w W0 w' : World} {D B n : Nat} (hb0 : Below w.heap.size w W0) (hD : w.heap.size ≤ D) (g : W0.grownBy w' (some D)) (H : BufW w B 0 n) : BufW w' B 0 n :=
  (H.below hb0).grown g (by have := H.1; omega)
theorem made_buf (w : World) (n : Nat) : BufW (w.alloc (.cells (madeCells #[.int .u8 0] n) 5)) w.heap.size 0 n := by
  refine ⟨by simp, fun i hi => ?_⟩
  rw [Nat.zero_add]
  refine ⟨?_, World.frozen?_alloc_at _ _ _ _ rfl⟩
  rw [World.cell?_alloc_at _ _ _ _ rfl]
  simp [size_madeCells, hi]
def UEA (l : List Int) (n B : Nat) (w : World) (e : Ending) (w' : World) : Prop :=
  ∃ (v x : Value), e = .returned (.tuple #[v, x]) ∧ w.grownBy w' (some B) ∧ BufW w' B 0 64 ∧
    Aside0 (match ue l with
      | none => (∃ a, x = .iface 158 (.pointer (some a))) ∧ v = .slice none 0 0
      | some us => x = .nilIface ∧ ∃ g g0 cap, v = .slice (some ⟨g, g0, none⟩) us.length cap ∧ RowAt w' g g0 us)
set_option maxHeartbeats 8000000 in
set_option maxRecDepth 100000 in
theorem unescA_calls (a8 : Addr) (h o n c B : Nat) (l : List Int) (w : World) (hT : TabT w) (h8 : w.cell? ⟨8, 0, none⟩ = some (.iface 158 (.pointer (some a8)))) (H : RowAt w h o l) (hby : Bytes l) (hl : l.length = n) (hn : n ≤ 140737488351232) (hnc : n ≤ c) (hW : BufW w B 0 64) (hBh : h ≠ B) (hB12 : 12 < B) (h64 : n ≤ 64) (f : Nat) (hf : fb l = some f) :
    Calls Tryd.prog 78 #[.agg #[.bool false, .bool false, .int .i64 0], .slice (some ⟨h, o, none⟩) n c, .slice (some ⟨B, 0, none⟩) 64 64] w (UEA l n B w) := by
  obtain ⟨hfl, hf92, hfu⟩ := fb_some hf
  have hfb := fb_ix hby
  rw [hf] at hfb
  have hwB := Aside0.mk hW.1
  have hwH := Aside0.mk H.1
  have h8s : 8 < w.heap.size := by have := hT.1; omega
  obtain ⟨X, hX⟩ : ∃ X, X = w.heap.size := ⟨_, rfl⟩
  have HX := Aside0.mk hX
  obtain ⟨D, hD⟩ : ∃ D, D = B := ⟨_, rfl⟩
  have hDD : D = B := hD
  subst hD
  have hb0 : Below w.heap.size w (w.alloc (.cells #[.bool false, .bool false, .int .i64 0] 90)) := below_alloc1 _
  have HCfg := Aside0.mk (cfg_new w 90)
  rw [← hX] at HCfg
  obtain ⟨W0, hW0⟩ : ∃ W0, W0 = w.alloc (.cells #[.bool false, .bool false, .int .i64 0] 90) := ⟨_, rfl⟩
  rw [← hW0] at HCfg hb0
  have Hrow := Aside0.mk (H.below hb0)
  have Hrow1 := Hrow
  have HTab := Aside0.mk (hT.below hb0)
  have H8 := Aside0.mk ((hb0.cell (p := ⟨8, 0, none⟩) h8s).trans h8)
  have hs8 : Aside0 (8 < W0.heap.size) := ⟨by have := hb0.size; omega⟩
  have HBuf := Aside0.mk (hW.below hb0)
  have hXD : X ≠ D := by have := hwB.out; omega
  have hhD : h ≠ D := hBh
  have HG0 : Aside0 (w.grownBy W0 (some D)) := ⟨⟨hb0.os, hb0.tape, hb0.output, hb0.size, fun k hk _ => hb0.block k hk⟩⟩

  have C85 := Aside0.mk (fun W (hW : RowAt W h o l) => Tryd.bytes_IndexByte h o n c l 92 W hl (fun i hi => hW.2 i (by omega)))
  rw [show ((92 : Int).toNat.toUInt8) = 92 from rfl, hfb] at C85
  simp only [] at C85
  have hfn : f < n := by omega
  have hfc : f ≤ c := by omega
  have hfcb : ¬ c = f := by omega
  have hfCb : ¬ 64 = f := by omega
  have hfb1 : ((f : Int) == -1) = false := by simp
  obtain ⟨hcp, hPut⟩ := copy_run W0 D 0 n 64 h o 64 f c f l Hrow.out (by omega) (by show f = min f n; rw [Nat.min_eq_left (by omega)]) HBuf.out (by omega)
  have HP := Aside0.mk hPut
  have HO1 := Aside0.mk ((OutW.start HBuf.out).put rfl HP.out)
  have HU1 : Aside0 (ue l = (ue (l.drop f)).map (([] ++ l.take f) ++ ·)) := ⟨by rw [hfu]; rfl⟩
  have HL := Aside0.mk hl
  have HBy := Aside0.mk hby
  have H92 := Aside0.mk hf92
  have HTL : Aside0 (([] ++ l.take f).length = f) := ⟨by simp; omega⟩
  have C85' := Aside0.mk (fun W (p : Nat) (cc : Nat) (hW : RowAt W h o l) (hp : p ≤ n) => Tryd.bytes_IndexByte h (o + p) (n - p) cc (l.drop p) 92 W (by rw [List.length_drop]; omega) (fun i hi => (hW.drop p).2 i (by rw [List.length_drop]; omega)))
  rw [show ((92 : Int).toNat.toUInt8) = 92 from rfl] at C85'
  clear hfu hf92 hf hfb hby hPut H hW hl
  subst hW0 hX
  clear hb0 h8 hT hDD
  go_enter Tryd.func78, Tryd.ntmps78
  go_wp2_with (go_at_call 85; refine (C85.out _ Hrow1.out).mono ?_; rintro e w1 ⟨rfl, rfl⟩)
  go_loopw [1, 9, 10, 11, 12] (fun vi vb _ _ _ wr => ∃ (p q : Nat) (us : List Int), vi = .slice (some ⟨h, o + p, none⟩) (n - p) (c - p) ∧ vb = .slice (some ⟨D, q, none⟩) (n - q) (64 - q) ∧ p < n ∧ q ≤ p ∧
      Aside0 (l.getD p 0 = 92) ∧ Aside0 (us.length = q) ∧ Aside0 (ue l = (ue (l.drop p)).map (us ++ ·)) ∧ Aside0 (OutW (w.alloc (.cells #[.bool false, .bool false, .int .i64 0] 90)) wr D 64 us)) (fun vi _ _ _ _ _ => match vi with | .slice _ k _ => k | _ => 0)
  case atStart => exact ⟨f, f, [] ++ l.take f, rfl, rfl, hfn, Nat.le_refl _, H92, HTL, HU1, HO1⟩
  case round =>
    clear HU1 HO1 HTL H92 hcp HP
    obtain ⟨p, q, us, rfl, rfl, hpn, hqp, H92, HQ, HU, HO⟩ := hrel
    have hci := (HCfg.out.grown HO.out.g hXD).2.1
    have hci1 := (HCfg.out.grown HO.out.g hXD).2.2.1
    have hci2 := (HCfg.out.grown HO.out.g hXD).2.2.2
    have hRr := Hrow.out.grown HO.out.g hhD
    have hTr := HTab.out.grown HO.out.g (by omega)
    have h8r := cell_grown H8.out hs8.out HO.out.g (by omega)
    have hBq : BufW wr D q (n - q) := ⟨HO.out.buf.1, fun i hi => by have := HO.out.buf.2 (q + i) (by omega); rw [Nat.zero_add] at this; exact this⟩
    have U1 := un1_calls h (o + p) (n - p) (c - p) D q (n - q) (64 - q) (l.drop p) wr hTr (hRr.drop p) (HBy.out.drop p) (drop_len HL.out) (by omega) (by omega) (by omega) (by rw [getD_drop]; exact H92.out) hBq (by omega) (by omega)
    unfold UNA at U1
    have hpl : p < l.length := by rw [HL.out]; exact hpn
    cases he : e1 (l.drop p) with
    | none =>
      rw [he] at U1
      have HN : Aside0 (ue l = none) := ⟨by rw [HU.out, ue_bad hpl H92.out he]; rfl⟩
      replace U1 := Aside0.mk U1
      clear he hRr hTr hBq hpl
      go_wp2_with (go_at_call 86; refine U1.out.mono ?_; rintro e w2 ⟨rfl, hP2⟩; have h82 := cell_grown H8.out hs8.out (HO.out.put HQ.out hP2).g (by omega))
      go_quiet (fail)
      go_wp2_with fail
      go_ret2
      have HZ := (HO.out.put HQ.out hP2).drewN nq
      refine ⟨_, _, rfl, (HG0.out.trans HZ.g), HZ.buf, ⟨?_⟩⟩
      rw [HN.out]
      exact ⟨⟨a8, rfl⟩, rfl⟩
    | some kb =>
      obtain ⟨k, bs⟩ := kb
      rw [he] at U1
      simp only [] at U1
      obtain ⟨k2, kn, b1, b4, bk⟩ := e1_le he
      have bk := e1_lt he
      rw [List.length_drop, HL.out] at kn
      have HU2 := Aside0.mk (ue_more HU.out (ue_good hpl H92.out he))
      replace U1 := Aside0.mk U1
      have hkb : ((k : Int) == -1) = false := by simp
      obtain ⟨p2, hp2⟩ : ∃ p2, p2 = p + k := ⟨_, rfl⟩
      obtain ⟨q2, hq2⟩ : ∃ q2, q2 = q + bs.length := ⟨_, rfl⟩
      have hp2n : p2 ≤ n := by omega
      have hq2p : q2 ≤ p2 := by omega
      have hq2lt : q2 < p2 := by omega
      rw [← hp2] at HU2
      have HUL : Aside0 ((us ++ bs).length = q2) := ⟨by rw [List.length_append, HQ.out]; omega⟩
      have e1a : o + p + k = o + p2 := by omega
      have e2a : n - p - k = n - p2 := by omega
      have e3a : c - p - k = c - p2 := by omega
      have f2a : n - q - bs.length = n - q2 := by omega
      have f3a : 64 - q - bs.length = 64 - q2 := by omega
      have f1a : q + bs.length = q2 := by omega
      have hHD := Aside0.mk hhD
      have hRw := Aside0.mk (fun W (P2 : Put wr W D q bs) => Hrow.out.grown (HO.out.put HQ.out P2).g hhD)
      have hNC : ¬ 64 - q = bs.length := by omega
      have hq1 : bs.length ≤ n - q := by omega
      have hk1 : k ≤ n - p := by omega
      have hk2 : k ≤ c - p := by omega
      have hb2 : bs.length ≤ 64 - q := by omega
      have EP := Aside0.mk (And.intro hp2 hq2)
      clear he b1 b4 bk hpl hRr hTr hBq
      rcases Decidable.em (c - p = k) with hck | hck
      · have hpn2 : p2 = n := by omega
        have hk0 : n - p - k = 0 := by omega
        have HF : Aside0 (ue l = some (us ++ bs)) := ⟨by
          have := HU2.out
          rw [List.drop_eq_nil_of_le (by rw [HL.out]; omega), ue_nil] at this
          simpa using this⟩
        have C2 := Aside0.mk (fun W => Tryd.bytes_IndexByte h (o + p) (n - p - k) (c - p - k) [] 92 W (by show 0 = n - p - k; omega) (fun i hi => by omega))
        have hcp := Aside0.mk (fun W (hW : RowAt W h o l) (hB : BufW W D 0 64) => (copy_run W D (q + bs.length) (n - q - bs.length) (64 - q - bs.length) h (o + p) 64 (n - p - k) (c - p - k) 0 (l.drop p) (hW.drop p) (Nat.zero_le _) (by show 0 = min (n - p - k) _; omega) hB (by omega)).1)
        rw [show Lib.indexByte (Lib.bytesOf []) ((92 : Int).toNat.toUInt8) = -1 from rfl] at C2
        replace hpn2 := Aside0.mk hpn2
        have E1 := Aside0.mk (And.intro e1a (And.intro e2a e3a))
        have E2 := Aside0.mk (And.intro f1a (And.intro f2a f3a))
        replace hk0 := Aside0.mk hk0
        have hckT : (c - p = k) = True := eq_true hck
        have hN2 : (64 - q - bs.length = n - p - k) = False := eq_false (by omega)
        have hlen := Aside0.mk (show n - (n - q - bs.length - (n - p - k)) = (us ++ bs).length by have := HUL.out; omega)
        replace hck := Aside0.mk hck
        clear e1a e2a e3a f1a f2a f3a hp2 hq2
        go_wp2_with (first
          | (go_at_call 86; refine U1.out.mono ?_; rintro e w2 ⟨rfl, hP2⟩; have hcpw := hcp.out w2 (hRw.out w2 hP2) (HO.out.put HQ.out hP2).buf)
          | (go_at_call 85; refine (C2.out _).mono ?_; rintro e w3 ⟨rfl, rfl⟩))
        go_ret2
        have HZ := HO.out.put HQ.out hP2
        refine ⟨_, _, rfl, (HG0.out.trans HZ.g), HZ.buf, ⟨?_⟩⟩
        rw [HF.out]
        exact ⟨rfl, D, 0, 64, congrArg (fun z => Value.slice (some ⟨D, 0, none⟩) z 64) hlen.out, HZ.rowAt⟩
      · have hckF : (c - p = k) = False := eq_false hck
        replace hck := Aside0.mk hck
        have hlt : p2 < n ∨ p2 = n := by omega
        have hN2 : (64 - q - bs.length = n - p - k) = False := eq_false (by omega)
        have hRp : Aside0 (∀ W, RowAt W h o l → RowAt W h (o + p + k) (l.drop p2)) := ⟨fun W hW => by have := hW.drop p2; rwa [← e1a] at this⟩
        have hDL : (l.drop p2).length = n - p - k := by rw [List.length_drop, HL.out]; omega
        have C2 := Aside0.mk (fun W (hW : RowAt W h o l) => Tryd.bytes_IndexByte h (o + p + k) (n - p - k) (c - p - k) (l.drop p2) 92 W hDL (fun i hi => (hRp.out W hW).2 i (by omega)))
        rw [show ((92 : Int).toNat.toUInt8) = 92 from rfl, fb_ix (HBy.out.drop p2)] at C2
        cases hfx : fb (l.drop p2) with
        | none =>
          rw [hfx] at C2
          simp only [] at C2
          have HF : Aside0 (ue l = some ((us ++ bs) ++ (l.drop p2).take (n - p - k))) := ⟨by
            rw [HU2.out, fb_none hfx, List.take_of_length_le (Nat.le_of_eq hDL)]; rfl⟩
          have hcp := Aside0.mk (fun W (hW : RowAt W h o l) (hB : BufW W D 0 64) => copy_run W D (q + bs.length) (n - q - bs.length) (64 - q - bs.length) h (o + p + k) 64 (n - p - k) (c - p - k) (n - p - k) (l.drop p2) (hRp.out W hW) (Nat.le_of_eq hDL.symm) (by show n - p - k = min (n - p - k) _; omega) hB (by omega))
          have hlen := Aside0.mk (show n - (n - q - bs.length - (n - p - k)) = ((us ++ bs) ++ (l.drop p2).take (n - p - k)).length by have := HUL.out; rw [List.length_append, List.length_take, hDL]; omega)
          have hq3 : n - p - k ≤ n - q - bs.length := by omega
          replace hDL := Aside0.mk hDL
          replace hfx := Aside0.mk hfx
          replace EP := EP.out
          replace hq2 := Aside0.mk hq2
          replace hp2 := Aside0.mk hp2
          clear EP hlt e1a e2a e3a f1a f2a f3a
          go_wp2_with (first
            | (go_at_call 86; refine U1.out.mono ?_; rintro e w2 ⟨rfl, hP2⟩; have hcpw := (hcp.out w2 (hRw.out w2 hP2) (HO.out.put HQ.out hP2).buf).1)
            | (go_at_call 85; refine (C2.out _ (hRw.out _ hP2)).mono ?_; rintro e w3 ⟨rfl, rfl⟩))
          go_ret2
          have HZ1 := HO.out.put HQ.out hP2
          have HZ := HZ1.put (HUL.out.trans hq2.out) (hcp.out _ (hRw.out _ hP2) HZ1.buf).2
          rw [List.map_drop] at HZ
          refine ⟨_, _, rfl, (HG0.out.trans HZ.g), HZ.buf, ⟨?_⟩⟩
          rw [HF.out]
          exact ⟨rfl, D, 0, 64, congrArg (fun z => Value.slice (some ⟨D, 0, none⟩) z 64) hlen.out, HZ.rowAt⟩
        | some f2 =>
          rw [hfx] at C2
          simp only [] at C2
          obtain ⟨hf1, hf2, hf3⟩ := fb_some hfx
          rw [hDL] at hf1
          have hf2b : ((f2 : Int) == -1) = false := by simp
          have hN3 : (64 - q - bs.length = f2) = False := eq_false (by omega)
          have hN4 : (c - p - k = f2) = False := eq_false (by omega)
          have hf4 : f2 ≤ n - p - k := by omega
          have hf5 : f2 ≤ c - p - k := by omega
          have hf6 : f2 ≤ n - q - bs.length := by omega
          have hf7 : f2 ≤ 64 - q - bs.length := by omega
          have HU3 := Aside0.mk (ue_more HU2.out hf3)
          rw [List.drop_drop] at HU3
          have H92' : Aside0 (l.getD (p2 + f2) 0 = 92) := ⟨by rw [← getD_drop]; exact hf2⟩
          have HUL2 : Aside0 (((us ++ bs) ++ (l.drop p2).take f2).length = q2 + f2) := ⟨by rw [List.length_append, List.length_take, hDL, HUL.out]; omega⟩
          have hcp := Aside0.mk (fun W (hW : RowAt W h o l) (hB : BufW W D 0 64) => copy_run W D (q + bs.length) (n - q - bs.length) (64 - q - bs.length) h (o + p + k) 64 f2 (c - p - k) f2 (l.drop p2) (hRp.out W hW) (by rw [hDL]; omega) (by show f2 = min f2 _; omega) hB (by omega))
          have EZ := Aside0.mk (And.intro (sl_eq (h := h) (show o + p + k + f2 = o + (p2 + f2) by omega) (show n - p - k - f2 = n - (p2 + f2) by omega) (show c - p - k - f2 = c - (p2 + f2) by omega)) (And.intro (sl_eq (h := D) (show q + bs.length + f2 = q2 + f2 by omega) (show n - q - bs.length - f2 = n - (q2 + f2) by omega) (show 64 - q - bs.length - f2 = 64 - (q2 + f2) by omega)) (And.intro (show p2 + f2 < n by omega) (And.intro (show q2 + f2 ≤ p2 + f2 by omega) (show n - p - k - f2 < n - p by omega)))))
          replace hDL := Aside0.mk hDL
          replace hfx := Aside0.mk hfx
          replace hf2 := Aside0.mk hf2
          replace hf3 := Aside0.mk hf3
          replace EP := EP.out
          replace hq2 := Aside0.mk hq2
          replace hp2 := Aside0.mk hp2
          clear EP hlt e1a e2a e3a f1a f2a f3a
          go_wp2_with (first
            | (go_at_call 86; refine U1.out.mono ?_; rintro e w2 ⟨rfl, hP2⟩; have hcpw := (hcp.out w2 (hRw.out w2 hP2) (HO.out.put HQ.out hP2).buf).1)
            | (go_at_call 85; refine (C2.out _ (hRw.out _ hP2)).mono ?_; rintro e w3 ⟨rfl, rfl⟩))
          go_roundw
          case rel =>
            have HZ1 := HO.out.put HQ.out hP2
            have HZ := HZ1.put (HUL.out.trans hq2.out) (hcp.out _ (hRw.out _ hP2) HZ1.buf).2
            rw [List.map_drop] at HZ
            exact ⟨p2 + f2, q2 + f2, _, EZ.out.1, EZ.out.2.1, EZ.out.2.2.1, EZ.out.2.2.2.1, H92', HUL2, HU3, ⟨HZ⟩⟩
          case measure => exact EZ.out.2.2.2.2
set_option maxHeartbeats 8000000 in
set_option maxRecDepth 100000 in
theorem unescM_calls (a8 : Addr) (h o n c B : Nat) (l : List Int) (w : World) (hT : TabT w) (h8 : w.cell? ⟨8, 0, none⟩ = some (.iface 158 (.pointer (some a8)))) (H : RowAt w h o l) (hby : Bytes l) (hl : l.length = n) (hn : n ≤ 140737488351232) (hnc : n ≤ c) (hW : BufW w B 0 64) (hBh : h ≠ B) (hB12 : 12 < B) (h64 : 64 < n) (f : Nat) (hf : fb l = some f) :
    Calls Tryd.prog 78 #[.agg #[.bool false, .bool false, .int .i64 0], .slice (some ⟨h, o, none⟩) n c, .slice (some ⟨B, 0, none⟩) 64 64] w (UEA l n B w) := by
  obtain ⟨hfl, hf92, hfu⟩ := fb_some hf
  have hfb := fb_ix hby
  rw [hf] at hfb
  have hwB := Aside0.mk hW.1
  have hwH := Aside0.mk H.1
  have h8s : 8 < w.heap.size := by have := hT.1; omega
  obtain ⟨X, hX⟩ : ∃ X, X = w.heap.size := ⟨_, rfl⟩
  have HX := Aside0.mk hX
  obtain ⟨D, hD⟩ : ∃ D, D = w.heap.size + 1 := ⟨_, rfl⟩
  have hmk := print_make (P := Tryd.prog) 54 5 .u8 1 Tryd.underlying54 (by kernel_rfl) (by decide) n (by omega)
  have hcfg := below_alloc1 (w := w) (.cells #[.bool false, .bool false, .int .i64 0] 90)
  have hb0 : Below w.heap.size w ((w.alloc (.cells #[.bool false, .bool false, .int .i64 0] 90)).alloc (.cells (madeCells #[.int .u8 0] n) 5)) := hcfg.trans (below_alloc1 _ |>.mono (by simp))
  have HCfg := Aside0.mk ((cfg_new w 90).below (below_alloc1 (.cells (madeCells #[.int .u8 0] n) 5)))
  rw [← hX] at HCfg
  obtain ⟨W0, hW0⟩ : ∃ W0, W0 = ((w.alloc (.cells #[.bool false, .bool false, .int .i64 0] 90)).alloc (.cells (madeCells #[.int .u8 0] n) 5)) := ⟨_, rfl⟩
  rw [← hW0] at HCfg hb0
  have Hrow := Aside0.mk (H.below hb0)
  have Hrow1 := Aside0.mk (H.below hcfg)
  have HTab := Aside0.mk (hT.below hb0)
  have H8 := Aside0.mk ((hb0.cell (p := ⟨8, 0, none⟩) h8s).trans h8)
  have hs8 : Aside0 (8 < W0.heap.size) := ⟨by have := hb0.size; omega⟩
  have HBuf : Aside0 (BufW W0 D 0 n) := ⟨by
    rw [hW0, hD]
    have := made_buf (w.alloc (.cells #[.bool false, .bool false, .int .i64 0] 90)) n
    rw [World.size_alloc] at this
    exact this⟩
  have hXD : X ≠ D := by omega
  have hhD : h ≠ D := by have := hwH.out; omega
  have hD12 : 12 < D := by have := hT.1; omega
  have hDw : w.heap.size ≤ D := by omega
  have h64i : (64 : Int) < (n : Int) := by omega
  have h64d : decide ((64 : Int) < (n : Int)) = true := by simpa using h64i
  have HBe := Aside0.mk hb0
  have HWB := Aside0.mk hW

  have C85 := Aside0.mk (fun W (hW : RowAt W h o l) => Tryd.bytes_IndexByte h o n c l 92 W hl (fun i hi => hW.2 i (by omega)))
  rw [show ((92 : Int).toNat.toUInt8) = 92 from rfl, hfb] at C85
  simp only [] at C85
  have hfn : f < n := by omega
  have hfc : f ≤ c := by omega
  have hfcb : ¬ c = f := by omega
  have hfCb : ¬ n = f := by omega
  have hfb1 : ((f : Int) == -1) = false := by simp
  obtain ⟨hcp, hPut⟩ := copy_run W0 D 0 n n h o n f c f l Hrow.out (by omega) (by show f = min f n; rw [Nat.min_eq_left (by omega)]) HBuf.out (by omega)
  have HP := Aside0.mk hPut
  have HO1 := Aside0.mk ((OutW.start HBuf.out).put rfl HP.out)
  have HU1 : Aside0 (ue l = (ue (l.drop f)).map (([] ++ l.take f) ++ ·)) := ⟨by rw [hfu]; rfl⟩
  have HL := Aside0.mk hl
  have HBy := Aside0.mk hby
  have H92 := Aside0.mk hf92
  have HTL : Aside0 (([] ++ l.take f).length = f) := ⟨by simp; omega⟩
  have C85' := Aside0.mk (fun W (p : Nat) (cc : Nat) (hW : RowAt W h o l) (hp : p ≤ n) => Tryd.bytes_IndexByte h (o + p) (n - p) cc (l.drop p) 92 W (by rw [List.length_drop]; omega) (fun i hi => (hW.drop p).2 i (by rw [List.length_drop]; omega)))
  rw [show ((92 : Int).toNat.toUInt8) = 92 from rfl] at C85'
  clear hfu hf92 hf hfb hby hPut H hW hl
  subst hW0 hX
  subst hD
  clear hb0 hcfg h8 hT
  go_enter Tryd.func78, Tryd.ntmps78
  go_wp2_with (go_at_call 85; refine (C85.out _ Hrow1.out).mono ?_; rintro e w1 ⟨rfl, rfl⟩)
  go_loopw [1, 9, 10, 11, 12] (fun vi vb _ _ _ wr => ∃ (p q : Nat) (us : List Int), vi = .slice (some ⟨h, o + p, none⟩) (n - p) (c - p) ∧ vb = .slice (some ⟨(w.heap.size + 1), q, none⟩) (n - q) (n - q) ∧ p < n ∧ q ≤ p ∧
      Aside0 (l.getD p 0 = 92) ∧ Aside0 (us.length = q) ∧ Aside0 (ue l = (ue (l.drop p)).map (us ++ ·)) ∧ Aside0 (OutW ((w.alloc (.cells #[.bool false, .bool false, .int .i64 0] 90)).alloc (.cells (madeCells #[.int .u8 0] n) 5)) wr (w.heap.size + 1) n us)) (fun vi _ _ _ _ _ => match vi with | .slice _ k _ => k | _ => 0)
  case atStart => exact ⟨f, f, [] ++ l.take f, rfl, rfl, hfn, Nat.le_refl _, H92, HTL, HU1, HO1⟩
  case round =>
    clear HU1 HO1 HTL H92 hcp HP
    obtain ⟨p, q, us, rfl, rfl, hpn, hqp, H92, HQ, HU, HO⟩ := hrel
    have hci := (HCfg.out.grown HO.out.g hXD).2.1
    have hci1 := (HCfg.out.grown HO.out.g hXD).2.2.1
    have hci2 := (HCfg.out.grown HO.out.g hXD).2.2.2
    have hRr := Hrow.out.grown HO.out.g hhD
    have hTr := HTab.out.grown HO.out.g (by omega)
    have h8r := cell_grown H8.out hs8.out HO.out.g (by omega)
    have hBq : BufW wr (w.heap.size + 1) q (n - q) := ⟨HO.out.buf.1, fun i hi => by have := HO.out.buf.2 (q + i) (by omega); rw [Nat.zero_add] at this; exact this⟩
    have U1 := un1_calls h (o + p) (n - p) (c - p) (w.heap.size + 1) q (n - q) (n - q) (l.drop p) wr hTr (hRr.drop p) (HBy.out.drop p) (drop_len HL.out) (by omega) (by omega) (by omega) (by rw [getD_drop]; exact H92.out) hBq (by omega) (by omega)
    unfold UNA at U1
    have hpl : p < l.length := by rw [HL.out]; exact hpn
    cases he : e1 (l.drop p) with
    | none =>
      rw [he] at U1
      have HN : Aside0 (ue l = none) := ⟨by rw [HU.out, ue_bad hpl H92.out he]; rfl⟩
      replace U1 := Aside0.mk U1
      clear he hRr hTr hBq hpl
      go_wp2_with (go_at_call 86; refine U1.out.mono ?_; rintro e w2 ⟨rfl, hP2⟩; have h82 := cell_grown H8.out hs8.out (HO.out.put HQ.out hP2).g (by omega))
      go_quiet (fail)
      go_wp2_with fail
      go_ret2
      have HZ := (HO.out.put HQ.out hP2).drewN nq
      refine ⟨_, _, rfl, (grownM HBe.out hDw HZ.g), (bufM HBe.out hDw HZ.g HWB.out), ⟨?_⟩⟩
      rw [HN.out]
      exact ⟨⟨a8, rfl⟩, rfl⟩
    | some kb =>
      obtain ⟨k, bs⟩ := kb
      rw [he] at U1
      simp only [] at U1
      obtain ⟨k2, kn, b1, b4, bk⟩ := e1_le he
      have bk := e1_lt he
      rw [List.length_drop, HL.out] at kn
      have HU2 := Aside0.mk (ue_more HU.out (ue_good hpl H92.out he))
      replace U1 := Aside0.mk U1
      have hkb : ((k : Int) == -1) = false := by simp
      obtain ⟨p2, hp2⟩ : ∃ p2, p2 = p + k := ⟨_, rfl⟩
      obtain ⟨q2, hq2⟩ : ∃ q2, q2 = q + bs.length := ⟨_, rfl⟩
      have hp2n : p2 ≤ n := by omega
      have hq2p : q2 ≤ p2 := by omega
      have hq2lt : q2 < p2 := by omega
      rw [← hp2] at HU2
      have HUL : Aside0 ((us ++ bs).length = q2) := ⟨by rw [List.length_append, HQ.out]; omega⟩
      have e1a : o + p + k = o + p2 := by omega
      have e2a : n - p - k = n - p2 := by omega
      have e3a : c - p - k = c - p2 := by omega
      have f2a : n - q - bs.length = n - q2 := by omega
      have f3a : n - q - bs.length = n - q2 := by omega
      have f1a : q + bs.length = q2 := by omega
      have hHD := Aside0.mk hhD
      have hRw := Aside0.mk (fun W (P2 : Put wr W (w.heap.size + 1) q bs) => Hrow.out.grown (HO.out.put HQ.out P2).g hhD)
      have hNC : ¬ n - q = bs.length := by omega
      have hq1 : bs.length ≤ n - q := by omega
      have hk1 : k ≤ n - p := by omega
      have hk2 : k ≤ c - p := by omega
      have hb2 : bs.length ≤ n - q := by omega
      have EP := Aside0.mk (And.intro hp2 hq2)
      clear he b1 b4 bk hpl hRr hTr hBq
      rcases Decidable.em (c - p = k) with hck | hck
      · have hpn2 : p2 = n := by omega
        have hk0 : n - p - k = 0 := by omega
        have HF : Aside0 (ue l = some (us ++ bs)) := ⟨by
          have := HU2.out
          rw [List.drop_eq_nil_of_le (by rw [HL.out]; omega), ue_nil] at this
          simpa using this⟩
        have C2 := Aside0.mk (fun W => Tryd.bytes_IndexByte h (o + p) (n - p - k) (c - p - k) [] 92 W (by show 0 = n - p - k; omega) (fun i hi => by omega))
        have hcp := Aside0.mk (fun W (hW : RowAt W h o l) (hB : BufW W (w.heap.size + 1) 0 n) => (copy_run W (w.heap.size + 1) (q + bs.length) (n - q - bs.length) (n - q - bs.length) h (o + p) n (n - p - k) (c - p - k) 0 (l.drop p) (hW.drop p) (Nat.zero_le _) (by show 0 = min (n - p - k) _; omega) hB (by omega)).1)
        rw [show Lib.indexByte (Lib.bytesOf []) ((92 : Int).toNat.toUInt8) = -1 from rfl] at C2
        replace hpn2 := Aside0.mk hpn2
        have E1 := Aside0.mk (And.intro e1a (And.intro e2a e3a))
        have E2 := Aside0.mk (And.intro f1a (And.intro f2a f3a))
        replace hk0 := Aside0.mk hk0
        have hckT : (c - p = k) = True := eq_true hck
        have hN2 : (n - q - bs.length = n - p - k) = False := eq_false (by omega)
        have hlen := Aside0.mk (show n - (n - q - bs.length - (n - p - k)) = (us ++ bs).length by have := HUL.out; omega)
        replace hck := Aside0.mk hck
        clear e1a e2a e3a f1a f2a f3a hp2 hq2
        go_wp2_with (first
          | (go_at_call 86; refine U1.out.mono ?_; rintro e w2 ⟨rfl, hP2⟩; have hcpw := hcp.out w2 (hRw.out w2 hP2) (HO.out.put HQ.out hP2).buf)
          | (go_at_call 85; refine (C2.out _).mono ?_; rintro e w3 ⟨rfl, rfl⟩))
        go_ret2
        have HZ := HO.out.put HQ.out hP2
        refine ⟨_, _, rfl, (grownM HBe.out hDw HZ.g), (bufM HBe.out hDw HZ.g HWB.out), ⟨?_⟩⟩
        rw [HF.out]
        exact ⟨rfl, (w.heap.size + 1), 0, n, congrArg (fun z => Value.slice (some ⟨(w.heap.size + 1), 0, none⟩) z n) hlen.out, HZ.rowAt⟩
      · have hckF : (c - p = k) = False := eq_false hck
        replace hck := Aside0.mk hck
        have hlt : p2 < n ∨ p2 = n := by omega
        have hN2 : (n - q - bs.length = n - p - k) = False := eq_false (by omega)
        have hRp : Aside0 (∀ W, RowAt W h o l → RowAt W h (o + p + k) (l.drop p2)) := ⟨fun W hW => by have := hW.drop p2; rwa [← e1a] at this⟩
        have hDL : (l.drop p2).length = n - p - k := by rw [List.length_drop, HL.out]; omega
        have C2 := Aside0.mk (fun W (hW : RowAt W h o l) => Tryd.bytes_IndexByte h (o + p + k) (n - p - k) (c - p - k) (l.drop p2) 92 W hDL (fun i hi => (hRp.out W hW).2 i (by omega)))
        rw [show ((92 : Int).toNat.toUInt8) = 92 from rfl, fb_ix (HBy.out.drop p2)] at C2
        cases hfx : fb (l.drop p2) with
        | none =>
          rw [hfx] at C2
          simp only [] at C2
          have HF : Aside0 (ue l = some ((us ++ bs) ++ (l.drop p2).take (n - p - k))) := ⟨by
            rw [HU2.out, fb_none hfx, List.take_of_length_le (Nat.le_of_eq hDL)]; rfl⟩
          have hcp := Aside0.mk (fun W (hW : RowAt W h o l) (hB : BufW W (w.heap.size + 1) 0 n) => copy_run W (w.heap.size + 1) (q + bs.length) (n - q - bs.length) (n - q - bs.length) h (o + p + k) n (n - p - k) (c - p - k) (n - p - k) (l.drop p2) (hRp.out W hW) (Nat.le_of_eq hDL.symm) (by show n - p - k = min (n - p - k) _; omega) hB (by omega))
          have hlen := Aside0.mk (show n - (n - q - bs.length - (n - p - k)) = ((us ++ bs) ++ (l.drop p2).take (n - p - k)).length by have := HUL.out; rw [List.length_append, List.length_take, hDL]; omega)
          have hq3 : n - p - k ≤ n - q - bs.length := by omega
          replace hDL := Aside0.mk hDL
          replace hfx := Aside0.mk hfx
          replace EP := EP.out
          replace hq2 := Aside0.mk hq2
          replace hp2 := Aside0.mk hp2
          clear EP hlt e1a e2a e3a f1a f2a f3a
          go_wp2_with (first
            | (go_at_call 86; refine U1.out.mono ?_; rintro e w2 ⟨rfl, hP2⟩; have hcpw := (hcp.out w2 (hRw.out w2 hP2) (HO.out.put HQ.out hP2).buf).1)
            | (go_at_call 85; refine (C2.out _ (hRw.out _ hP2)).mono ?_; rintro e w3 ⟨rfl, rfl⟩))
          go_ret2
          have HZ1 := HO.out.put HQ.out hP2
          have HZ := HZ1.put (HUL.out.trans hq2.out) (hcp.out _ (hRw.out _ hP2) HZ1.buf).2
          rw [List.map_drop] at HZ
          refine ⟨_, _, rfl, (grownM HBe.out hDw HZ.g), (bufM HBe.out hDw HZ.g HWB.out), ⟨?_⟩⟩
          rw [HF.out]
          exact ⟨rfl, (w.heap.size + 1), 0, n, congrArg (fun z => Value.slice (some ⟨(w.heap.size + 1), 0, none⟩) z n) hlen.out, HZ.rowAt⟩
        | some f2 =>
          rw [hfx] at C2
          simp only [] at C2
          obtain ⟨hf1, hf2, hf3⟩ := fb_some hfx
          rw [hDL] at hf1
          have hf2b : ((f2 : Int) == -1) = false := by simp
          have hN3 : (n - q - bs.length = f2) = False := eq_false (by omega)
          have hN4 : (c - p - k = f2) = False := eq_false (by omega)
          have hf4 : f2 ≤ n - p - k := by omega
          have hf5 : f2 ≤ c - p - k := by omega
          have hf6 : f2 ≤ n - q - bs.length := by omega
          have hf7 : f2 ≤ n - q - bs.length := by omega
          have HU3 := Aside0.mk (ue_more HU2.out hf3)
          rw [List.drop_drop] at HU3
          have H92' : Aside0 (l.getD (p2 + f2) 0 = 92) := ⟨by rw [← getD_drop]; exact hf2⟩
          have HUL2 : Aside0 (((us ++ bs) ++ (l.drop p2).take f2).length = q2 + f2) := ⟨by rw [List.length_append, List.length_take, hDL, HUL.out]; omega⟩
          have hcp := Aside0.mk (fun W (hW : RowAt W h o l) (hB : BufW W (w.heap.size + 1) 0 n) => copy_run W (w.heap.size + 1) (q + bs.length) (n - q - bs.length) (n - q - bs.length) h (o + p + k) n f2 (c - p - k) f2 (l.drop p2) (hRp.out W hW) (by rw [hDL]; omega) (by show f2 = min f2 _; omega) hB (by omega))
          have EZ := Aside0.mk (And.intro (sl_eq (h := h) (show o + p + k + f2 = o + (p2 + f2) by omega) (show n - p - k - f2 = n - (p2 + f2) by omega) (show c - p - k - f2 = c - (p2 + f2) by omega)) (And.intro (sl_eq (h := (w.heap.size + 1)) (show q + bs.length + f2 = q2 + f2 by omega) (show n - q - bs.length - f2 = n - (q2 + f2) by omega) (show n - q - bs.length - f2 = n - (q2 + f2) by omega)) (And.intro (show p2 + f2 < n by omega) (And.intro (show q2 + f2 ≤ p2 + f2 by omega) (show n - p - k - f2 < n - p by omega)))))
          replace hDL := Aside0.mk hDL
          replace hfx := Aside0.mk hfx
          replace hf2 := Aside0.mk hf2
          replace hf3 := Aside0.mk hf3
          replace EP := EP.out
          replace hq2 := Aside0.mk hq2
          replace hp2 := Aside0.mk hp2
          clear EP hlt e1a e2a e3a f1a f2a f3a
          go_wp2_with (first
            | (go_at_call 86; refine U1.out.mono ?_; rintro e w2 ⟨rfl, hP2⟩; have hcpw := (hcp.out w2 (hRw.out w2 hP2) (HO.out.put HQ.out hP2).buf).1)
            | (go_at_call 85; refine (C2.out _ (hRw.out _ hP2)).mono ?_; rintro e w3 ⟨rfl, rfl⟩))
          go_roundw
          case rel =>
            have HZ1 := HO.out.put HQ.out hP2
            have HZ := HZ1.put (HUL.out.trans hq2.out) (hcp.out _ (hRw.out _ hP2) HZ1.buf).2
            rw [List.map_drop] at HZ
            exact ⟨p2 + f2, q2 + f2, _, EZ.out.1, EZ.out.2.1, EZ.out.2.2.1, EZ.out.2.2.2.1, H92', HUL2, HU3, ⟨HZ⟩⟩
          case measure => exact EZ.out.2.2.2.2
set_option maxHeartbeats 8000000 in
set_option maxRecDepth 100000 in
theorem unescN_calls (h o n c B : Nat) (l : List Int) (w : World) (H : RowAt w h o l) (hby : Bytes l) (hl : l.length = n) (hn : n ≤ 140737488351232) (hnc : n ≤ c) (hW : BufW w B 0 64) (hBh : h ≠ B) (hf : fb l = none) :
    Calls Tryd.prog 78 #[.agg #[.bool false, .bool false, .int .i64 0], .slice (some ⟨h, o, none⟩) n c, .slice (some ⟨B, 0, none⟩) 64 64] w (UEA l n B w) := by
  have hfb := fb_ix hby
  rw [hf] at hfb
  have hb0 : Below w.heap.size w (w.alloc (.cells #[.bool false, .bool false, .int .i64 0] 90)) := below_alloc1 _
  have HB0 := Aside0.mk hb0
  have Hrow := Aside0.mk (H.below hb0)
  have HBuf := Aside0.mk (hW.below hb0)
  have C85 := Aside0.mk (fun W (hW : RowAt W h o l) => Tryd.bytes_IndexByte h o n c l 92 W hl (fun i hi => hW.2 i (by omega)))
  rw [show ((92 : Int).toNat.toUInt8) = 92 from rfl, hfb] at C85
  simp only [] at C85
  have HU : Aside0 (ue l = some l) := ⟨fb_none hf⟩
  have HL := Aside0.mk hl
  clear hfb hb0 H hW hl hf hby
  go_enter Tryd.func78, Tryd.ntmps78
  go_wp2_with (go_at_call 85; refine (C85.out _ Hrow.out).mono ?_; rintro e w1 ⟨rfl, rfl⟩)
  go_ret2
  refine ⟨_, _, rfl, ⟨HB0.out.os, HB0.out.tape, HB0.out.output, HB0.out.size, fun k hk _ => HB0.out.block k hk⟩, HBuf.out, ⟨?_⟩⟩
  rw [HU.out]
  exact ⟨rfl, h, o, c, congrArg (fun z => Value.slice (some ⟨h, o, none⟩) z c) HL.out.symm, Hrow.out⟩
/-- unescape, whole. -/
theorem unesc_calls (a8 : Addr) (h o n c B : Nat) (l : List Int) (w : World) (hT : TabT w) (h8 : w.cell? ⟨8, 0, none⟩ = some (.iface 158 (.pointer (some a8)))) (H : RowAt w h o l) (hby : Bytes l) (hl : l.length = n) (hn : n ≤ 140737488351232) (hnc : n ≤ c) (hW : BufW w B 0 64) (hBh : h ≠ B) (hB12 : 12 < B) :
    Calls Tryd.prog 78 #[.agg #[.bool false, .bool false, .int .i64 0], .slice (some ⟨h, o, none⟩) n c, .slice (some ⟨B, 0, none⟩) 64 64] w (UEA l n B w) := by
  cases hf : fb l with
  | none => exact unescN_calls h o n c B l w H hby hl hn hnc hW hBh hf
  | some f =>
    rcases Nat.lt_or_ge 64 n with h64 | h64
    · exact unescM_calls a8 h o n c B l w hT h8 H hby hl hn hnc hW hBh hB12 h64 f hf
    · exact unescA_calls a8 h o n c B l w hT h8 H hby hl hn hnc hW hBh hB12 h64 f hf
end Go.Proofs.YtpahejmkidhhhaaDoor.G

