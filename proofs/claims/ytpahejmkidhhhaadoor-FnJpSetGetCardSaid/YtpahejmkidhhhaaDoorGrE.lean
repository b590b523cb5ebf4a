/- The reference's reader: elements. -/
import Derived.Test.YtpahejmkidhhhaaDoorGrD
import Derived.OwnWalk
namespace Go.Proofs.YtpahejmkidhhhaaDoor.G
set_option linter.unusedVariables false
set_option linter.unusedSimpArgs false
open Go.RowKit Go.Proofs.YtpahejmkidhhhaaDoorW.PrintWords

/-- From what lies from B on. -/
def From (B : Nat) (g : Nat) : Prop := B ≤ g
/-- A value is read, or not. -/
def ValA (o : Option (Pl × Nat)) (w : World) (R : Nat) (S : ByteArray) (m : Nat) (e : Ending) (w' : World) : Prop :=
  ∃ (k b z : Int) (na : Option Addr) (nn nc : Nat) (ka : Option Addr) (kn kc : Nat) (ok : Bool) (p : Nat),
    e = .returned (.tuple #[.agg #[.int .i64 k, .int .i64 b, .int .i64 z, .slice na nn nc, .slice ka kn kc], .bool ok]) ∧ Mv w w' R S p ∧ p ≤ S.size ∧
    Aside0 (match o with | none => ok = false | some (t, j) => ok = true ∧ p = m + j ∧ PlAt w' (From w.heap.size) t [.int .i64 k, .int .i64 b, .int .i64 z, .slice na nn nc, .slice ka kn kc])
def ElsA (o : Option (List Pl × Nat)) (w : World) (R : Nat) (S : ByteArray) (m : Nat) (e : Ending) (w' : World) : Prop :=
  ∃ (ka : Option Addr) (kn kc : Nat) (ok : Bool) (p : Nat), e = .returned (.tuple #[.slice ka kn kc, .bool ok]) ∧ Mv w w' R S p ∧ p ≤ S.size ∧
    Aside0 (match o with | none => ok = false | some (ps, j) => ok = true ∧ p = m + j ∧ ∃ xs, RowF w' (From w.heap.size) 27 5 (.slice ka kn kc) ps.length xs ∧ PlsAt w' (From w.heap.size) ps xs)
theorem lst_V (a : Nat) (l : List Int) : lst V a l = if tk 93 (l.drop (bl l)) then some ([], bl l + 1) else (E (a + bl l) (l.drop (bl l))).map fun r => (r.1, bl l + r.2) := by
  unfold lst E
  rw [els_fuel (fun _ _ _ _ => V_le) l.length (l.drop (bl l)).length _ _ (by rw [List.length_drop]; omega) (Nat.le_refl _)]
theorem obj_V (a : Nat) (l : List Int) : obj V a l = if tk 125 (l.drop (bl l)) then some ([], [], bl l + 1) else (M (a + bl l) (l.drop (bl l))).map fun r => (r.1, r.2.1, bl l + r.2.2) := by
  unfold obj M
  rw [mbs_fuel (fun _ _ _ _ => V_le) l.length (l.drop (bl l)).length _ _ (by rw [List.length_drop]; omega) (Nat.le_refl _)]
/-- The kids read so far; the subtrees lie in other blocks than the row, and than a second row u. -/
structure KidsAt (w0 wr : World) (v u : Value) (ps : List Pl) (ns : List (Nat × Nat)) : Prop where
  row : ∃ xs, wr.ownsRow w0.heap.size 27 5 v ps.length xs ∧ PlsAt wr (fun g => w0.heap.size ≤ g ∧ some g ≠ v.ownBlock ∧ some g ≠ u.ownBlock) ps xs
  apart : u.ownBlock = none ∨ v.ownBlock ≠ u.ownBlock
  names : wr.ownsRow w0.heap.size 64 2 u ns.length (spans ns)
theorem kids_nil (w : World) : KidsAt w w (.slice none 0 0) (.slice none 0 0) [] [] := ⟨⟨[], World.ownsRow_nil _ _ _ _, by unfold PlsAt; rfl⟩, .inl rfl, World.ownsRow_nil _ _ _ _⟩
theorem own_ne {w0 w : World} {v : Value} {n e sz : Nat} {xs : List Value} (h : w.ownsRow w0.heap.size e sz v n xs) {R : Nat} (hR : R < w0.heap.size) : v.ownBlock ≠ some R := fun e => by have := (h.lt R e).1; omega
/-- The reader moves on. -/
theorem KidsAt.moved {w0 w w1 : World} {v u : Value} {ps : List Pl} {ns : List (Nat × Nat)} {R m : Nat} {S : ByteArray} (h : KidsAt w0 w v u ps ns) (hM : Mv w w1 R S m) (hR : R < w0.heap.size) : KidsAt w0 w1 v u ps ns := by
  obtain ⟨⟨xs, h1, h2⟩, h3, h4⟩ := h
  exact ⟨⟨xs, h1.kept hM.g (.inr (own_ne h1 hR)), PlsAt.kept (fun g hg hF => hM.g.block g hg (by intro e; cases e; have := hF.1; omega)) h2⟩, h3, h4.kept hM.g (.inr (own_ne h4 hR))⟩
theorem KidsAt.lt {w0 w : World} {v u : Value} {ps : List Pl} {ns : List (Nat × Nat)} (h : KidsAt w0 w v u ps ns) (g : Nat) (hg : v.ownBlock = some g) : w0.heap.size ≤ g ∧ g < w.heap.size := by
  obtain ⟨⟨xs, h1, h2⟩, h3, h4⟩ := h
  exact h1.lt g hg
/-- One more name. -/
theorem KidsAt.named {w0 w1 w2 : World} {v u : Value} {ps : List Pl} {ns : List (Nat × Nat)} {g cap : Nat} {p : Nat × Nat} (h : KidsAt w0 w1 v u ps ns)
    (hown : w2.ownsRow w0.heap.size 64 2 (.slice (some ⟨g, 0, none⟩) (ns.length + 1) cap) (ns.length + 1) (spans ns ++ [.int .i64 p.1, .int .i64 p.2])) (hg : w1.grownBy w2 u.ownBlock) (hat : u.ownBlock = some g ∨ w1.heap.size ≤ g) :
    KidsAt w0 w2 v (.slice (some ⟨g, 0, none⟩) (ns.length + 1) cap) ps (ns ++ [p]) := by
  obtain ⟨⟨xs, h1, h2⟩, h3, h4⟩ := h
  have hne : v.ownBlock = none ∨ v.ownBlock ≠ u.ownBlock := by
    rcases h3 with h | h
    · cases hv : v.ownBlock with
      | none => exact .inl rfl
      | some g => rw [h]; exact .inr (fun e => by cases e)
    · exact .inr h
  have b4 : PlsAt w1 (fun k => (w0.heap.size ≤ k ∧ some k ≠ v.ownBlock ∧ some k ≠ u.ownBlock) ∧ k < w1.heap.size) ps xs := PlsAt.mono (fun k hk hF => ⟨hF, hk⟩) h2
  have b5 := PlsAt.kept (w' := w2) (fun k hk hF => hg.block k hk (fun e => hF.1.2.2 e)) b4
  have b6 : PlsAt w2 (fun k => w0.heap.size ≤ k ∧ some k ≠ v.ownBlock ∧ some k ≠ (Value.slice (some ⟨g, 0, none⟩) (ns.length + 1) cap).ownBlock) ps xs := by
    refine PlsAt.mono ?_ b5
    intro k hk hF
    refine ⟨hF.1.1, hF.1.2.1, fun e => ?_⟩
    have ek : k = g := by simpa [Value.ownBlock] using e
    rcases hat with h | h
    · exact hF.1.2.2 (by rw [h, ek])
    · have := hF.2; omega
  refine ⟨⟨xs, h1.kept hg hne, b6⟩, ?_, by rw [List.length_append, List.length_singleton, spans_snoc]; exact hown⟩
  refine .inr fun e => ?_
  have e' : v.ownBlock = some g := e
  rcases hat with h | h
  · rcases hne with h5 | h5
    · rw [h5] at e'; cases e'
    · exact h5 (by rw [e', h])
  · have := (h1.lt g e').2; omega
/-- One more kid. -/
theorem KidsAt.more {w0 w w1 w2 : World} {v u : Value} {ps : List Pl} {ns : List (Nat × Nat)} {R m g cap : Nat} {S : ByteArray} {t : Pl} {cs xs : List Value} (h1 : w.ownsRow w0.heap.size 27 5 v ps.length xs) (h2 : PlsAt w (fun g => w0.heap.size ≤ g ∧ some g ≠ v.ownBlock ∧ some g ≠ u.ownBlock) ps xs)
    (hap : u.ownBlock = none ∨ v.ownBlock ≠ u.ownBlock) (hnm : w.ownsRow w0.heap.size 64 2 u ns.length (spans ns))
    (hM : Mv w w1 R S m) (hR : R < w0.heap.size) (h0 : w0.heap.size ≤ w.heap.size) (ht : PlAt w1 (From w.heap.size) t cs)
    (hown : w2.ownsRow w0.heap.size 27 5 (.slice (some ⟨g, 0, none⟩) (ps.length + 1) cap) (ps.length + 1) (xs ++ cs)) (hg : w1.grownBy w2 v.ownBlock) (hat : v.ownBlock = some g ∨ w1.heap.size ≤ g) :
    KidsAt w0 w2 (.slice (some ⟨g, 0, none⟩) (ps.length + 1) cap) u (ps ++ [t]) ns := by
  have hsz := hM.lt
  have hlow : ∀ g, u.ownBlock = some g → w0.heap.size ≤ g ∧ g < w.heap.size := fun g hg => hnm.lt g hg
  have a1 : PlsAt w1 (fun g => w0.heap.size ≤ g ∧ some g ≠ v.ownBlock ∧ some g ≠ u.ownBlock) ps xs :=
    PlsAt.kept (fun g hg hF => hM.g.block g hg (by intro e; cases e; have := hF.1; omega)) h2
  have hvb : ∀ g, some g = v.ownBlock → g < w.heap.size := fun g e => (h1.lt g e.symm).2
  have a2 : PlAt w1 (fun g => w0.heap.size ≤ g ∧ some g ≠ v.ownBlock ∧ some g ≠ u.ownBlock) t cs := PlAt.mono (fun g hg hF => ⟨by unfold From at hF; omega, fun e => by have := hvb g e; unfold From at hF; omega, fun e => by have := (hlow g e.symm).2; unfold From at hF; omega⟩) ht
  have a3 := PlsAt.snoc a1 a2
  have a4 : PlsAt w1 (fun k => (w0.heap.size ≤ k ∧ some k ≠ v.ownBlock ∧ some k ≠ u.ownBlock) ∧ k < w1.heap.size) (ps ++ [t]) (xs ++ cs) := PlsAt.mono (fun k hk hF => ⟨hF, hk⟩) a3
  have a5 := PlsAt.kept (w' := w2) (fun k hk hF => hg.block k hk (fun e => hF.1.2.1 e)) a4
  have a6 : PlsAt w2 (fun k => w0.heap.size ≤ k ∧ some k ≠ (Value.slice (some ⟨g, 0, none⟩) (ps.length + 1) cap).ownBlock ∧ some k ≠ u.ownBlock) (ps ++ [t]) (xs ++ cs) := by
    refine PlsAt.mono ?_ a5
    intro k hk hF
    refine ⟨hF.1.1, fun e => ?_, hF.1.2.2⟩
    have ek : k = g := by simpa [Value.ownBlock] using e
    rcases hat with h | h
    · exact hF.1.2.1 (by rw [h, ek])
    · have := hF.2; omega
  refine ⟨⟨xs ++ cs, by rw [List.length_append, List.length_singleton]; exact hown, a6⟩, ?_, (hnm.kept hM.g (.inr (own_ne hnm hR))).kept hg (by rcases hap with h | h; exact .inl h; exact .inr fun e => h e.symm)⟩
  rcases hap with h | h
  · exact .inl h
  · refine .inr fun e => ?_
    have e' : some g = u.ownBlock := e
    rcases hat with h3 | h3
    · exact h (h3.trans e')
    · have := (hlow g e'.symm).2; omega
theorem grown_own {w wr W w2 : World} {R p n e sz : Nat} {S : ByteArray} {v : Value} {xs : List Value} (hM : Mv w W R S p) (hx : wr.ownsRow w.heap.size e sz v n xs) (hg : W.grownBy w2 v.ownBlock) (hR : R < w.heap.size) : Mv w w2 R S p := hM.grown hg (fun k hk => (hx.lt k hk).1) hR
theorem al_kept {w1 : World} {t : Pl} {cs : List Value} {F : Nat → Prop} {o : Obj} (h : PlAt w1 F t cs) : PlAt (w1.alloc o) F t cs :=
  PlAt.kept (fun g hg _ => Below.heap_alloc _ _ _ hg) h
/-- append(kids, p). -/
theorem app_kid {ops : Array Oper} {rest : List Oper} {o : Oper} {a : Act} {Q : Exit → Act → World → Prop} {w wr wv : World} {R k p cx : Nat} {S : ByteArray} {ka : Option Addr} {kn kc : Nat} {u : Value} {ps : List Pl} {ns : List (Nat × Nat)} {t : Pl}
    {kd b z : Int} {na : Option Addr} {nn nc : Nat} {ja : Option Addr} {jn jc : Nat} (hgd : o.guard = none) (sl x : Operand)
    (ho : o.op = .call { callee := .builtin .append, args := #[sl, x], argTypes := #[25, 25] })
    (HK : Aside0 (KidsAt w wr (.slice ka kn kc) u ps ns)) (HM : Aside0 (Mv w wr R S k)) (MV : Mv wr wv R S p) (HV : Aside0 (PlAt wv (From wr.heap.size) t [.int .i64 kd, .int .i64 b, .int .i64 z, .slice na nn nc, .slice ja jn jc])) (hR : Aside0 (R < w.heap.size)) (hn : Aside0 (ps.length ≤ 1099511627000))
    (hs : a.eval sl = .slice ka kn kc) (hx : a.eval x = .slice (some ⟨wv.heap.size + 1, 0, none⟩) 1 cx)
    (hh : ∀ g cap w2, Aside0 (Mv w w2 R S p) → Aside0 (KidsAt w w2 (.slice (some ⟨g, 0, none⟩) (ps.length + 1) cap) u (ps ++ [t]) ns) → wpList Tryd.prog ops Q rest (a.put o.dst (.slice (some ⟨g, 0, none⟩) (ps.length + 1) cap)) w2) :
    wpList Tryd.prog ops Q (o :: rest) a ((wv.alloc (.cells #[.int .i64 kd, .int .i64 b, .int .i64 z, .slice na nn nc, .slice ja jn jc] 27)).alloc (.cells #[.int .i64 kd, .int .i64 b, .int .i64 z, .slice na nn nc, .slice ja jn jc] 27)) := by
  obtain ⟨⟨xs, hx1, hx2⟩, h3, h4⟩ := HK.out
  have hRr : R < wr.heap.size := by have := HM.out.r.lt; exact this
  have hle : w.heap.size ≤ wr.heap.size := HM.out.lt
  refine app_lies (W := wv.alloc (.cells #[.int .i64 kd, .int .i64 b, .int .i64 z, .slice na nn nc, .slice ja jn jc] 27)) (cells := [.int .i64 kd, .int .i64 b, .int .i64 z, .slice na nn nc, .slice ja jn jc]) hgd sl x 25 27 5 72 _ ho Tryd.underlying25 info33 rfl (by decide) (by decide) (B := w.heap.size) (v := .slice ka kn kc) (n := ps.length) (xs := xs)
    ⟨(hx1.kept MV.g (.inr (own_ne hx1 hR.out))).alloc _⟩ ⟨by rw [World.size_alloc]; have := MV.lt; omega⟩ rfl (by intro u hu; simp at hu; rcases hu with rfl | rfl | rfl | rfl | rfl <;> rfl) hn hs _ hx (by rw [World.size_alloc]) ?_
  intro g cap w2 HR2 HG2 HT2
  exact hh g cap w2 ⟨grown_own (HM.out.trans (MV.alloc hRr _)) hx1 HG2.out hR.out⟩
    ⟨KidsAt.more hx1 hx2 h3 h4 (MV.alloc hRr _) hR.out hle (al_kept HV.out) HR2.out HG2.out (by rcases HT2.out with h | h; exact .inl h; exact .inr (Nat.le_of_lt h))⟩
/-- append(names, Span{b, e}). -/
theorem app_nam {ops : Array Oper} {rest : List Oper} {o : Oper} {a : Act} {Q : Exit → Act → World → Prop} {w wv : World} {R p cx : Nat} {S : ByteArray} {v : Value} {na : Option Addr} {nn nc : Nat} {ps : List Pl} {ns : List (Nat × Nat)}
    {b z : Int} (hgd : o.guard = none) (sl x : Operand) (ho : o.op = .call { callee := .builtin .append, args := #[sl, x], argTypes := #[24, 24] })
    (HK : Aside0 (KidsAt w wv v (.slice na nn nc) ps ns)) (MV : Aside0 (Mv w wv R S p)) (hR : Aside0 (R < w.heap.size)) (hn : Aside0 (ns.length ≤ 1099511627000)) (q : Nat × Nat) (hb : b = q.1) (hz : z = q.2)
    (hs : a.eval sl = .slice na nn nc) (hx : a.eval x = .slice (some ⟨wv.heap.size, 0, none⟩) 1 cx)
    (hh : ∀ g cap w2, Aside0 (Mv w w2 R S p) → Aside0 (KidsAt w w2 v (.slice (some ⟨g, 0, none⟩) (ns.length + 1) cap) ps (ns ++ [q])) → wpList Tryd.prog ops Q rest (a.put o.dst (.slice (some ⟨g, 0, none⟩) (ns.length + 1) cap)) w2) :
    wpList Tryd.prog ops Q (o :: rest) a (wv.alloc (.cells #[.int .i64 b, .int .i64 z] 64)) := by
  subst hb hz
  refine app_lies (W := wv) (cells := [.int .i64 q.1, .int .i64 q.2]) hgd sl x 24 64 2 16 _ ho Tryd.underlying24 info104 rfl (by decide) (by decide) (B := w.heap.size) (v := .slice na nn nc) (n := ns.length) (xs := spans ns)
    ⟨HK.out.names⟩ ⟨MV.out.lt⟩ rfl (by intro u hu; simp at hu; rcases hu with rfl | rfl <;> rfl) hn hs _ hx rfl ?_
  intro g cap w2 HR2 HG2 HT2
  exact hh g cap w2 ⟨grown_own MV.out HK.out.names HG2.out hR.out⟩
    ⟨KidsAt.named HK.out HR2.out HG2.out (by rcases HT2.out with h | h; exact .inl h; exact .inr (Nat.le_of_lt h))⟩
theorem E_none {S : ByteArray} {k : Nat} (hv : V k (rest S k) = none) : E k (rest S k) = none := by rw [E_eq, hv]
theorem E_last {S : ByteArray} {k p r j : Nat} {t : Pl} (hv : V k (rest S k) = some (t, j)) (hp : p = k + j) (hr : r = p + bl (rest S p)) (h : tk 93 (rest S r) = true) : E k (rest S k) = some ([t], r + 1 - k) := by
  rw [E_eq, hv]
  simp only [rest_drop]
  rw [← hp, show k + (j + bl (rest S p)) = r by omega, h]
  simp
  omega
theorem E_bad {S : ByteArray} {k p r j : Nat} {t : Pl} (hv : V k (rest S k) = some (t, j)) (hp : p = k + j) (hr : r = p + bl (rest S p)) (h : tk 93 (rest S r) = false) (h2 : tk 44 (rest S r) = false) : E k (rest S k) = none := by
  rw [E_eq, hv]
  simp only [rest_drop]
  rw [← hp, show k + (j + bl (rest S p)) = r by omega, h, h2]
  simp
theorem E_more {S : ByteArray} {k p r s j : Nat} {t : Pl} (hv : V k (rest S k) = some (t, j)) (hp : p = k + j) (hr : r = p + bl (rest S p)) (h : tk 93 (rest S r) = false) (h2 : tk 44 (rest S r) = true) (hs : s = r + 1 + bl (rest S (r + 1))) :
    E k (rest S k) = (E s (rest S s)).map fun x => (t :: x.1, s - k + x.2) := by
  rw [E_eq, hv]
  simp only [rest_drop]
  rw [← hp, show k + (j + bl (rest S p)) = r by omega, h, h2, show k + (j + bl (rest S p) + 1) = r + 1 by omega, show k + (j + bl (rest S p) + 1 + bl (rest S (r + 1))) = s by omega]
  simp only [Bool.false_eq_true, if_false, if_true]
  congr 1
  funext x
  rw [show j + bl (rest S p) + 1 + bl (rest S (r + 1)) = s - k by omega]
set_option maxHeartbeats 4000000 in
set_option maxRecDepth 100000 in
theorem elements_calls (S : ByteArray) (R m : Nat) (w : World) (h : RS w R S m) (hm : m < S.size) (hs : S.size ≤ 2147483647)
    (VH : ∀ k W, m < k → k ≤ S.size → RS W R S k → Calls Tryd.prog 37 #[.pointer (some ⟨R, 0, none⟩)] W (ValA (V k (rest S k)) W R S k)) :
    Calls Tryd.prog 52 #[.pointer (some ⟨R, 0, none⟩)] w (ElsA ((lst V (m + 1) (rest S (m + 1))).map fun r => (r.1, 1 + r.2)) w R S m) := by
  have H := Aside0.mk h
  have VH := Aside0.mk VH
  have hs2 : S.size ≤ 140737488351232 := by omega
  have HB := Aside0.mk (fun k W (hk : RS W R S k) (hk2 : k ≤ S.size) => blanks_calls S R k W hk hk2 hs2)
  have HT := Aside0.mk (fun k c W (hk : RS W R S k) => take_calls S R k c W hk hs2)
  have M1 := Aside0.mk (h.same.set (m + 1) (z := (m : Int) + 1) (by simp))
  have hR := Aside0.mk h.lt
  obtain ⟨h0, hc0, hc1, hfz⟩ := h
  obtain ⟨q, hq⟩ : ∃ q, q = m + 1 + bl (rest S (m + 1)) := ⟨_, rfl⟩
  have hqs : q ≤ S.size := by have := bl_le (rest S (m + 1)); rw [rest_len] at this; omega
  have hl := lst_V (m + 1) (rest S (m + 1))
  rw [rest_drop, ← hq] at hl
  have HL := Aside0.mk hl
  have HQ := Aside0.mk hq
  have HBq := Aside0.mk (HB.out (m + 1) _ M1.out.r hm)
  rw [← hq] at HBq
  clear hl
  cases h93 : tk 93 (rest S q) with
  | true =>
    have hq1 := tk_lt h93
    have HA : Aside0 ((lst V (m + 1) (rest S (m + 1))).map (fun r => (r.1, 1 + r.2)) = some ([], 1 + (bl (rest S (m + 1)) + 1))) := ⟨by rw [HL.out, h93]; rfl⟩
    have HT9 := Aside0.mk (fun W (hk : RS W R S q) => HT.out q 93 W hk)
    rw [h93] at HT9
    clear h93 hq
    go_enter Tryd.func52, Tryd.ntmps52
    go_wp2_with (first
      | (go_at_call 69; refine (HT9.out _ M2.r).mono ?_; rintro e w2 ⟨rfl, M3⟩)
      | (go_at_call 36; refine HBq.out.mono ?_; rintro e w1 ⟨rfl, M2⟩))
    go_ret2
    exact ⟨none, 0, 0, true, q + 1, rfl, (M1.out.trans M2).trans M3, hq1, ⟨by rw [HA.out]; exact ⟨rfl, by have := HQ.out; omega, [], ⟨World.ownsRow_nil _ _ _ _, fun g hg => by cases hg⟩, by unfold PlsAt; rfl⟩⟩⟩
  | false =>
    have HA : Aside0 ((lst V (m + 1) (rest S (m + 1))).map (fun r => (r.1, 1 + r.2)) = (E q (rest S q)).map (fun r => (r.1, q - m + r.2))) := ⟨by
      rw [HL.out, h93]
      simp only [Bool.false_eq_true, if_false, Option.map_map]
      congr 1
      funext r
      simp only [Function.comp]
      rw [show 1 + (bl (rest S (m + 1)) + r.2) = q - m + r.2 by omega]⟩
    have HT9 := Aside0.mk (fun W (hk : RS W R S q) => HT.out q 93 W hk)
    rw [h93] at HT9
    have hmq : m < q := by omega
    clear h93 hq
    go_enter Tryd.func52, Tryd.ntmps52
    go_wp2_with (first
      | (go_at_call 69; refine (HT9.out _ M2.r).mono ?_; rintro e w2 ⟨rfl, M3⟩)
      | (go_at_call 36; refine HBq.out.mono ?_; rintro e w1 ⟨rfl, M2⟩))
    have M3 := Aside0.mk ((M1.out.trans M2).trans M3)
    have HK0 := Aside0.mk ((((kids_nil w).moved M1.out hR.out).moved M2 hR.out).moved ‹Mv w1 w2 R S _› hR.out)
    clear hc0 hc1 hfz h0 M2 hqs
    go_loopw [4] (fun v4 wr => ∃ (k : Nat) (ps : List Pl) (ka : Option Addr) (kn kc : Nat), v4 = .slice ka kn kc ∧ q ≤ k ∧ k ≤ S.size ∧ Aside0 (Mv w wr R S k) ∧ Aside0 (KidsAt w wr (.slice ka kn kc) (.slice none 0 0) ps []) ∧ Aside0 (ps.length ≤ k) ∧ Aside0 (E q (rest S q) = (E k (rest S k)).map fun r => (ps ++ r.1, k - q + r.2))) (fun _ wr => S.size - plc wr R)
    case atStart => exact ⟨q, [], none, 0, 0, rfl, Nat.le_refl _, by have := bl_le (rest S (m + 1)); rw [rest_len] at this; have := HQ.out; omega, M3, HK0, ⟨Nat.zero_le _⟩, ⟨by simp⟩⟩
    case round =>
      clear HK0 M3
      obtain ⟨k, ps, ka, kn, kc, rfl, hqk, hk, HM, HK, HN, HE⟩ := hrel
      have hRr : Aside0 (R < wr.heap.size) := ⟨HM.out.r.lt⟩
      have CV := Aside0.mk (VH.out k wr (by omega) hk HM.out.r)
      cases hv : V k (rest S k) with
      | none =>
        rw [hv] at CV
        have HA2 : Aside0 ((lst V (m + 1) (rest S (m + 1))).map (fun r => (r.1, 1 + r.2)) = none) := ⟨by rw [HA.out, HE.out, E_none hv]; rfl⟩
        clear hv
        go_wp2_with (first
          | (go_at_call 37; refine CV.out.mono ?_; rintro e wv ⟨kd, b, z, na, nn, nc, ja, jn, jc, ok, p, rfl, MV, hp, hA⟩; obtain rfl : ok = false := hA.out; clear hA))
        go_ret2
        exact ⟨none, 0, 0, false, p, rfl, HM.out.trans (MV.alloc hRr.out _), hp, ⟨by rw [HA2.out]⟩⟩
      | some tj =>
        obtain ⟨t, j⟩ := tj
        rw [hv] at CV
        have hj := V_le hv
        rw [rest_len] at hj
        obtain ⟨p, hp⟩ : ∃ p, p = k + j := ⟨_, rfl⟩
        obtain ⟨r, hr⟩ : ∃ r, r = p + bl (rest S p) := ⟨_, rfl⟩
        have hps : p ≤ S.size := by omega
        have hrs : r ≤ S.size := by have := bl_le (rest S p); rw [rest_len] at this; omega
        have HPJ := Aside0.mk (And.intro hj (And.intro hp hr))
        have hBr := Aside0.mk (fun W (hk : RS W R S p) => HB.out p W hk hps)
        rw [← hr] at hBr
        cases h93 : tk 93 (rest S r) with
        | true =>
          have hT1 := Aside0.mk (fun W (hk : RS W R S r) => HT.out r 93 W hk)
          rw [h93] at hT1
          have HA2 : Aside0 ((lst V (m + 1) (rest S (m + 1))).map (fun r => (r.1, 1 + r.2)) = some (ps ++ [t], r + 1 - m)) := ⟨by
            rw [HA.out, HE.out, E_last hv hp hr h93]
            simp only [Option.map_some]
            rw [show q - m + (k - q + (r + 1 - k)) = r + 1 - m by omega]⟩
          have hr1 := tk_lt h93
          clear hv h93 hp hr hj
          go_wp2_with (first
            | (go_at_call 69; refine (hT1.out _ M6.r).mono ?_; rintro e w4 ⟨rfl, M7⟩)
            | (go_at_call 36; refine (hBr.out _ M5.out.r).mono ?_; rintro e w3 ⟨rfl, M6⟩)
            | (at_builtin; refine app_kid rfl _ _ rfl HK HM MV HV hR ⟨(by have := HN.out; omega)⟩ rfl rfl ?_; intro g cap w2 M5 HK2)
            | (go_at_call 37; refine CV.out.mono ?_; rintro e wv ⟨kd, b, z, na, nn, nc, ja, jn, jc, ok, p', rfl, MV, hp', hA⟩; obtain ⟨rfl, hpe, hV⟩ := hA.out; obtain rfl : p' = p := (by have := HPJ.out.2.1; omega); have HV := Aside0.mk hV; clear hA hV hpe))
          go_ret2
          have HK3 := (HK2.out.moved M6 hR.out).moved M7 hR.out
          obtain ⟨⟨ys, hy1, hy2⟩, -, -⟩ := HK3
          refine ⟨_, _, _, true, r + 1, rfl, (M5.out.trans M6).trans M7, hr1, ⟨?_⟩⟩
          rw [HA2.out]
          exact ⟨rfl, by have := HPJ.out.2.2; have := HPJ.out.2.1; omega, ys, RowF.of hy1 (fun g hg => (hy1.lt g hg).1), PlsAt.mono (fun g hg hF => hF.1) hy2⟩
        | false =>
          have hT1 := Aside0.mk (fun W (hk : RS W R S r) => HT.out r 93 W hk)
          rw [h93] at hT1
          have hT2 := Aside0.mk (fun W (hk : RS W R S r) => HT.out r 44 W hk)
          cases h44 : tk 44 (rest S r) with
          | false =>
            have HA2 : Aside0 ((lst V (m + 1) (rest S (m + 1))).map (fun r => (r.1, 1 + r.2)) = none) := ⟨by rw [HA.out, HE.out, E_bad hv hp hr h93 h44]; rfl⟩
            rw [h44] at hT2
            clear hv h93 h44 hp hr hj
            go_wp2_with (first
              | (go_at_call 69; refine (hT2.out _ M7.r).mono ?_; rintro e w5 ⟨rfl, M8⟩)
              | (go_at_call 69; refine (hT1.out _ M6.r).mono ?_; rintro e w4 ⟨rfl, M7⟩)
              | (go_at_call 36; refine (hBr.out _ M5.out.r).mono ?_; rintro e w3 ⟨rfl, M6⟩)
              | (at_builtin; refine app_kid rfl _ _ rfl HK HM MV HV hR ⟨(by have := HN.out; omega)⟩ rfl rfl ?_; intro g cap w2 M5 HK2)
              | (go_at_call 37; refine CV.out.mono ?_; rintro e wv ⟨kd, b, z, na, nn, nc, ja, jn, jc, ok, p', rfl, MV, hp', hA⟩; obtain ⟨rfl, hpe, hV⟩ := hA.out; obtain rfl : p' = p := (by have := HPJ.out.2.1; omega); have HV := Aside0.mk hV; clear hA hV hpe))
            go_ret2
            exact ⟨none, 0, 0, false, r, rfl, ((M5.out.trans M6).trans M7).trans M8, hrs, ⟨by rw [HA2.out]⟩⟩
          | true =>
            have hr1 := tk_lt h44
            obtain ⟨s, hsd⟩ : ∃ s, s = r + 1 + bl (rest S (r + 1)) := ⟨_, rfl⟩
            have hss : s ≤ S.size := by have := bl_le (rest S (r + 1)); rw [rest_len] at this; omega
            have hBs := Aside0.mk (fun W (hk : RS W R S (r + 1)) => HB.out (r + 1) W hk hr1)
            rw [← hsd] at hBs
            have HE2 : Aside0 (E q (rest S q) = (E s (rest S s)).map fun x => ((ps ++ [t]) ++ x.1, s - q + x.2)) := ⟨by
              rw [HE.out, E_more hv hp hr h93 h44 hsd, Option.map_map]
              congr 1
              funext x
              simp only [Function.comp]
              rw [List.append_assoc, show k - q + (s - k + x.2) = s - q + x.2 by omega]
              rfl⟩
            have hks : k < s := by omega
            rw [h44] at hT2
            clear hv h93 h44 hp hr hj hsd
            go_wp2_with (first
              | (go_at_call 36; refine (hBs.out _ M8.r).mono ?_; rintro e w6 ⟨rfl, M9⟩)
              | (go_at_call 69; refine (hT2.out _ M7.r).mono ?_; rintro e w5 ⟨rfl, M8⟩)
              | (go_at_call 69; refine (hT1.out _ M6.r).mono ?_; rintro e w4 ⟨rfl, M7⟩)
              | (go_at_call 36; refine (hBr.out _ M5.out.r).mono ?_; rintro e w3 ⟨rfl, M6⟩)
              | (at_builtin; refine app_kid rfl _ _ rfl HK HM MV HV hR ⟨(by have := HN.out; omega)⟩ rfl rfl ?_; intro g cap w2 M5 HK2)
              | (go_at_call 37; refine CV.out.mono ?_; rintro e wv ⟨kd, b, z, na, nn, nc, ja, jn, jc, ok, p', rfl, MV, hp', hA⟩; obtain ⟨rfl, hpe, hV⟩ := hA.out; obtain rfl : p' = p := (by have := HPJ.out.2.1; omega); have HV := Aside0.mk hV; clear hA hV hpe))
            have M10 := (((M5.out.trans M6).trans M7).trans M8).trans M9
            have HK3 := (((HK2.out.moved M6 hR.out).moved M7 hR.out).moved M8 hR.out).moved M9 hR.out
            refine ⟨⟨s, ps ++ [t], _, _, _, rfl, by omega, hss, ⟨M10⟩, ⟨HK3⟩, ⟨by rw [List.length_append, List.length_singleton]; have := HN.out; omega⟩, HE2⟩, ?_⟩
            rw [M10.r.plc, HM.out.r.plc]; omega
end Go.Proofs.YtpahejmkidhhhaaDoor.G
