/- A row of bytes that is appended to and a text that is read: apart from each other, or one and the same row (the written part behind the place that is read). -/
import Derived.Test.YtklllibhgalnfabGvX
namespace Go.Proofs.Ytklllibhgalnfab.G
set_option linter.unusedVariables false
set_option linter.unusedSimpArgs false
open Go.RowKit Go.Proofs.YtklllibhgalnfabW.PrintWords

/-- The cells from q on read as src. -/
def SrcAt (w : World) (h : Nat) (src : List Int) (q : Nat) : Prop := ∀ j, q ≤ j → j < src.length → w.cell? ⟨h, j, none⟩ = some (.int .u8 (src.getD j 0))
/-- The slice of address A and capacity c holds out, and can be written up to c. -/
def OutAt (w : World) (A : Option Addr) (c : Nat) (out : List Int) : Prop :=
  (A = none ∧ out = [] ∧ c = 0) ∨ ∃ g, A = some ⟨g, 0, none⟩ ∧ g < w.heap.size ∧ out.length ≤ c ∧ (∀ j, j < out.length → w.cell? ⟨g, j, none⟩ = some (.int .u8 (out.getD j 0))) ∧
    ∀ j, j < c → (w.cell? ⟨g, j, none⟩).isSome = true ∧ w.frozen? ⟨g, j, none⟩ = false
def Duo (w : World) (h : Nat) (A : Option Addr) (c : Nat) (out src : List Int) (q : Nat) : Prop :=
  OutAt w A c out ∧ SrcAt w h src q ∧ h < w.heap.size ∧ out.length ≤ src.length ∧ ((∀ a, A = some a → h < a.block) ∨ (A = some ⟨h, 0, none⟩ ∧ src.length ≤ c))
variable {P : Program}
theorem Duo.src {w : World} {h : Nat} {A : Option Addr} {c : Nat} {out src : List Int} {q : Nat} (H : Duo w h A c out src q) {j : Nat} (h1 : q ≤ j) (h2 : j < src.length) : w.cell? ⟨h, j, none⟩ = some (.int .u8 (src.getD j 0)) := H.2.1 j h1 h2
theorem Duo.le {w : World} {h : Nat} {A : Option Addr} {c : Nat} {out src : List Int} {q : Nat} (H : Duo w h A c out src q) : out.length ≤ src.length := H.2.2.2.1
theorem Duo.heap {w : World} {h : Nat} {A : Option Addr} {c : Nat} {out src : List Int} {q : Nat} (H : Duo w h A c out src q) : h < w.heap.size := H.2.2.1
theorem Duo.from' {w : World} {h : Nat} {A : Option Addr} {c : Nat} {out src : List Int} {q q' : Nat} (H : Duo w h A c out src q) (hq : q ≤ q') : Duo w h A c out src q' :=
  ⟨H.1, fun j hj => H.2.1 j (by omega), H.2.2⟩
theorem Duo.cell {w : World} {h : Nat} {A : Option Addr} {c : Nat} {out src : List Int} {q : Nat} (H : Duo w h A c out src q) (hne : 0 < out.length) :
    ∃ g, A = some ⟨g, 0, none⟩ ∧ h ≤ g ∧ out.length ≤ c ∧ (∀ j, j < out.length → w.cell? ⟨g, j, none⟩ = some (.int .u8 (out.getD j 0))) ∧ ∀ j, j < out.length → w.frozen? ⟨g, j, none⟩ = false := by
  obtain ⟨ho, _, _, _, hd⟩ := H
  rcases ho with ⟨_, rfl, _⟩ | ⟨g, rfl, hg, hl, hc, hr⟩
  · simp at hne
  · refine ⟨g, rfl, ?_, hl, hc, fun j hj => (hr j (by omega)).2⟩
    rcases hd with hd | ⟨hd, _⟩
    · exact Nat.le_of_lt (hd _ rfl)
    · injection hd with hd; injection hd with hd; omega
theorem Duo.below {w w' : World} {h : Nat} {A : Option Addr} {c : Nat} {out src : List Int} {q : Nat} (H : Duo w h A c out src q) (hb : Below w.heap.size w w') : Duo w' h A c out src q := by
  obtain ⟨ho, hs, hh, hl, hd⟩ := H
  refine ⟨?_, fun j h1 h2 => ?_, Nat.lt_of_lt_of_le hh hb.size, hl, hd⟩
  · rcases ho with ho | ⟨g, e, hg, hl, hc, hr⟩
    · exact .inl ho
    · refine .inr ⟨g, e, Nat.lt_of_lt_of_le hg hb.size, hl, fun j hj => ?_, fun j hj => ?_⟩
      · rw [hb.cell (p := ⟨g, j, none⟩) hg]; exact hc j hj
      · rw [hb.cell (p := ⟨g, j, none⟩) hg, hb.frozen (p := ⟨g, j, none⟩) hg]; exact hr j hj
  · rw [hb.cell (p := ⟨h, j, none⟩) hh]; exact hs j h1 h2
/-- One byte of the written part is written anew. -/
theorem Duo.store {w : World} {h g : Nat} {c : Nat} {out src : List Int} {q q' : Nat} (H : Duo w h (some ⟨g, 0, none⟩) c out src q) {j : Nat} (hj : j < out.length) (hq : q ≤ q') (hjq : j < q') (x : Int) :
    Duo (w.setCell ⟨g, j, none⟩ (.int .u8 x)) h (some ⟨g, 0, none⟩) c (out.set j x) src q' := by
  obtain ⟨ho, hs, hh, hl, hd⟩ := H
  rcases ho with ⟨e, _⟩ | ⟨g', e, hg, hlc, hc, hr⟩
  · cases e
  injection e with e
  injection e with e
  subst e
  have hb := Lib.below_setCells (B := 0) g (Nat.zero_le _) [.int .u8 x] j (Below.refl 0 w)
  have e1 : w.setCell ⟨g, j, none⟩ (.int .u8 x) = w.setCells g j [.int .u8 x] := rfl
  rw [e1]
  refine ⟨.inr ⟨g, rfl, Nat.lt_of_lt_of_le hg hb.size, by simpa using hlc, fun k hk => ?_, fun k hk => ⟨World.isSome_setCells g _ _ _ _ (hr k hk).1, by rw [World.frozen?_setCells]; exact (hr k hk).2⟩⟩, fun k h1 h2 => ?_, Nat.lt_of_lt_of_le hh hb.size, by simpa using hl, hd⟩
  · simp only [List.length_set] at hk
    by_cases hkj : k = j
    · subst hkj
      have := World.cell?_setCells_in g [.int .u8 x] k w (fun z hz => (hr (k + z) (by simp at hz; omega)).1) 0 (by simp)
      simp only [Nat.add_zero] at this
      rw [this]
      simp [List.getD_eq_getElem?_getD, hk]
    · rw [World.cell?_setCells_out g _ _ _ _ (fun _ _ => by simp only [List.length_singleton]; omega)]
      rw [hc k hk]
      simp [List.getD_eq_getElem?_getD, List.getElem?_set, Ne.symm hkj]
  · rw [World.cell?_setCells_out g _ _ _ _ (fun _ _ => by simp only [List.length_singleton]; omega)]
    exact hs k (by omega) h2
theorem setCells_map (xs : List Int) : (xs.map (Value.int .u8)).length = xs.length := List.length_map ..
/-- What an append within the capacity leaves. -/
theorem Duo.room {w : World} {h g : Nat} {c : Nat} {out src : List Int} {q q' : Nat} (H : Duo w h (some ⟨g, 0, none⟩) c out src q) (news : List Int) (hroom : out.length + news.length ≤ c) (hl' : out.length + news.length ≤ src.length)
    (hq : q ≤ q') (hqq : ∀ j, q' ≤ j → j < out.length + news.length → out.length ≤ j → src.getD j 0 = news.getD (j - out.length) 0) :
    Duo (w.setCells g out.length (news.map (Value.int .u8))) h (some ⟨g, 0, none⟩) c (out ++ news) src q' := by
  obtain ⟨ho, hs, hh, hl, hd⟩ := H
  rcases ho with ⟨e, _⟩ | ⟨g', e, hg, hlc, hc, hr⟩
  · cases e
  injection e with e
  injection e with e
  subst e
  have hb := Lib.below_setCells (B := 0) g (Nat.zero_le _) (news.map (Value.int .u8)) out.length (Below.refl 0 w)
  have hin : ∀ j, out.length ≤ j → j < out.length + news.length → (w.setCells g out.length (news.map (Value.int .u8))).cell? ⟨g, j, none⟩ = some (.int .u8 (news.getD (j - out.length) 0)) := by
    intro j h1 h2
    have := World.cell?_setCells_in g (news.map (Value.int .u8)) out.length w (fun k hk => (hr (out.length + k) (by simp at hk; omega)).1) (j - out.length) (by simp; omega)
    rw [show out.length + (j - out.length) = j by omega] at this
    rw [this]
    simp [List.getD_eq_getElem?_getD, List.getElem?_eq_getElem (show j - out.length < news.length by omega)]
  refine ⟨.inr ⟨g, rfl, Nat.lt_of_lt_of_le hg hb.size, by simpa using hroom, fun k hk => ?_, fun k hk => ⟨World.isSome_setCells g _ _ _ _ (hr k hk).1, by rw [World.frozen?_setCells]; exact (hr k hk).2⟩⟩, fun k h1 h2 => ?_, Nat.lt_of_lt_of_le hh hb.size, by simpa using hl', hd⟩
  · simp only [List.length_append] at hk
    rcases Nat.lt_or_ge k out.length with hk2 | hk2
    · rw [World.cell?_setCells_out g _ _ _ _ (fun _ _ => .inl hk2), hc k hk2]
      simp [List.getD_eq_getElem?_getD, List.getElem?_append_left hk2]
    · rw [hin k hk2 hk]
      simp [List.getD_eq_getElem?_getD, List.getElem?_append_right hk2]
  · rcases hd with hd | ⟨hd, hcap⟩
    · have := hd _ rfl
      rw [World.cell?_setCells_out g _ _ _ _ (fun e _ => absurd e (by simp at this ⊢; omega))]
      exact hs k (by omega) h2
    · injection hd with hd
      injection hd with hd
      subst hd
      by_cases hko : out.length ≤ k ∧ k < out.length + news.length
      · rw [hin k hko.1 hko.2, ← hqq k h1 hko.2 hko.1]
      · rw [World.cell?_setCells_out g _ _ _ _ (fun _ _ => by simp only [List.length_map]; omega)]
        exact hs k (by omega) h2
/-- What an append that moves leaves. -/
theorem Duo.moved {w : World} {h : Nat} {A : Option Addr} {c C : Nat} {out src : List Int} {q q' : Nat} {e : TypeId} {pad : Array Value} (H : Duo w h A c out src q) (news : List Int) (hl' : out.length + news.length ≤ src.length) (hno : A ≠ some ⟨h, 0, none⟩ ∨ c < src.length)
    (hq : q ≤ q') (hC : pad.size + (out.length + news.length) = C) :
    Duo (w.drew.alloc (.cells ((out.map (Value.int .u8)).toArray ++ (news.map (Value.int .u8)).toArray ++ pad) e)) h (some ⟨w.heap.size, 0, none⟩) C (out ++ news) src q' := by
  obtain ⟨ho, hs, hh, hl, hd⟩ := H
  have hb : Below w.heap.size w (w.drew.alloc (.cells ((out.map (Value.int .u8)).toArray ++ (news.map (Value.int .u8)).toArray ++ pad) e)) := (Below.refl _ _).drew.alloc (Nat.le_refl _) _
  have hnew : (w.drew.alloc (.cells ((out.map (Value.int .u8)).toArray ++ (news.map (Value.int .u8)).toArray ++ pad) e)).heap[w.heap.size]? = some (.cells ((out.map (Value.int .u8)).toArray ++ (news.map (Value.int .u8)).toArray ++ pad) e) := heap_alloc_new w.drew _
  refine ⟨.inr ⟨w.heap.size, rfl, by simp [World.size_alloc], by simp; omega, fun j hj => ?_, fun j hj => ⟨?_, ?_⟩⟩, fun j h1 h2 => ?_, Nat.lt_of_lt_of_le hh hb.size, by simpa using hl', .inl fun a ha => by injection ha with ha; subst ha; exact hh⟩
  · have : ((out.map (Value.int .u8)).toArray ++ (news.map (Value.int .u8)).toArray ++ pad)[j]? = some (.int .u8 ((out ++ news).getD j 0)) := by
      have hx : j < ((out ++ news).map (Value.int .u8)).length := by simpa using hj
      have e2 : ((out.map (Value.int .u8)).toArray ++ (news.map (Value.int .u8)).toArray ++ pad).toList = (out ++ news).map (Value.int .u8) ++ pad.toList := by simp
      rw [← Array.getElem?_toList, e2, List.getElem?_append_left hx]
      simp only [List.getElem?_map, List.getD_eq_getElem?_getD, List.getElem?_eq_getElem hj, Option.map_some, Option.getD_some]
    simp only [World.cell?, hnew]
    simpa using this
  · simp only [World.cell?, hnew]
    simp; omega
  · simp only [World.frozen?, hnew]
    simp
  · rw [hb.cell (p := ⟨h, j, none⟩) hh]; exact hs j (by omega) h2
theorem Duo.same {w : World} {h : Nat} {A : Option Addr} {c : Nat} {out src : List Int} {q : Nat} (H : Duo w h A c out src q) (hc : c < src.length) : A ≠ some ⟨h, 0, none⟩ := by
  rcases H.2.2.2.2 with hd | ⟨_, hd⟩
  · intro e; have := hd _ e; simp at this
  · omega
/-- append(dst, x, ..), for the walk. -/
theorem wpList_append_duo {ops : Array Oper} {rest : List Oper} {o : Oper} {a : Act} {Q : Exit → Act → World → Prop} {w : World} (hgd : o.guard = none) (sl x : Operand) (t e : TypeId)
    (ho : o.op = .call { callee := .builtin .append, args := #[sl, x], argTypes := #[t, t] })
    (ht : P.underlying t = some (.slice e)) (hinfo : (P.info? e).map (fun i => (i.zero, i.size, i.bytes)) = some (some (.int .u8 0), 1, 1))
    (h : Nat) (A : Option Addr) (c : Nat) (out src : List Int) (q q' : Nat) (hs : a.eval sl = .slice A out.length c) (H : Duo w h A c out src q)
    (news : List Int) (ad : Addr) (m cx : Nat) (hx : a.eval x = .slice (some ad) m cx) (hm : m = news.length) (hnews : ∀ (j : Nat) (u : Int), news[j]? = some u → w.cell? (ad.add j) = some (.int .u8 u)) (h0 : 0 < news.length)
    (hl : out.length + news.length ≤ src.length) (hmax : src.length ≤ 140737488351232) (hq : q ≤ q') (hqq : ∀ j, q' ≤ j → j < out.length + news.length → out.length ≤ j → src.getD j 0 = news.getD (j - out.length) 0)
    (hk : ∀ A' c' w', Duo w' h A' c' (out ++ news) src q' → Below h w w' → wpList P ops Q rest (a.put o.dst (.slice A' (out ++ news).length c')) w') : wpList P ops Q (o :: rest) a w := by
  subst hm
  obtain ⟨i, hi, hzz⟩ := Option.map_eq_some_iff.1 hinfo
  simp only [Prod.mk.injEq] at hzz
  obtain ⟨hz, hsize, hby⟩ := hzz
  have hcells : ∀ (j : Nat) (u : Value), (news.map (Value.int .u8))[j]? = some u → w.cell? (ad.add j) = some u := by
    intro j u hj
    rw [List.getElem?_map] at hj
    obtain ⟨z, hz2, rfl⟩ := Option.map_eq_some_iff.1 hj
    exact hnews j z hz2
  have hlen : (out ++ news).length = out.length + news.length := List.length_append
  have hHeap := H.heap
  refine wpList_plain hgd fun K hK => ?_
  unfold Oper.wp execOp
  simp only [ho, resolve, invoke, builtin, Sem.run_bind, Sem.run_pure, Result.andThen_ok, List.map_toArray, List.map_cons, List.map_nil, hs, hx]
  rcases H.1 with ⟨rfl, rfl, rfl⟩ | ⟨g, rfl, hg, hlc, hc, hr⟩
  · have hr := run_append_nil (P := P) (w := w) t o.type e i (.int .u8 0) ht hi hz ad news.length cx (news.map (Value.int .u8)) (by simp [hsize]) hcells h0 (by simp at hl; omega) (by rw [hby]; simp at hl; omega)
    have e0 : (Value.slice none ([] : List Int).length 0) = .slice none 0 0 := rfl
    rw [e0, hr]
    have hD := Duo.moved (e := e) (q' := q') (pad := Builtin.zeroCells (Value.int IntKind.u8 0).cells (grownCap w news.length 0 e - news.length)) (C := grownCap w news.length 0 e) H news (by simpa using hl) (.inl (by simp)) hq (by
      have hz1 : (Value.int IntKind.u8 0).cells.size = 1 := rfl
      have hge := grownCap_ge w news.length 0 e
      simp only [size_zeroCells, hz1, List.length_nil]
      omega)
    have hfin := hk _ _ _ hD ((Below.refl _ _).drew.alloc (by simpa using Nat.le_of_lt hHeap) _)
    rw [hlen] at hfin
    simp only [List.map_nil, List.length_nil, Nat.zero_add, List.nil_append] at hfin
    exact hK _ _ (by simpa using hfin)
  · by_cases hroom : out.length + news.length ≤ c
    · have hst := run_storeCells_cells (P := P) g out.length (news.map (Value.int .u8)) 0 w (fun j hj => (hr (out.length + 0 + j) (by simp at hj; omega)).1) (fun j hj => (hr (out.length + 0 + j) (by simp at hj; omega)).2) (fun v hv => by
        rw [List.mem_map] at hv; obtain ⟨z, _, rfl⟩ := hv; rfl)
      have hf := run_firstCells_some (P := P) w 1 news.length ad news.length cx (news.map (Value.int .u8)) (by simp) hcells
      simp only [Nat.add_zero] at hst
      have hrun : (Builtin.append_ #[t, t] o.type #[.slice (some ⟨g, 0, none⟩) out.length c, .slice (some ad) news.length cx]).run P w = .ok (.slice (some ⟨g, 0, none⟩) (out.length + news.length) c) (w.setCells g out.length (news.map (Value.int .u8))) := by
        simp [Builtin.append_, run_underlying ht, sizeOf, typeInfo, hi, hsize, Builtin.lenOf, hroom, hf, Addr.add_lit, hst]
      rw [hrun]
      have hfin := hk _ _ _ (Duo.room H news hroom hl hq hqq) (Lib.below_setCells g (by
        rcases H.2.2.2.2 with hd | ⟨hd, _⟩
        · exact Nat.le_of_lt (hd _ rfl)
        · injection hd with hd; injection hd with hd; omega) _ _ (Below.refl _ _))
      rw [hlen] at hfin
      exact hK _ _ hfin
    · have hrun := run_append_grow (P := P) (w := w) t o.type e i (.int .u8 0) ht hi hz ⟨g, 0, none⟩ out.length c (out.map (Value.int .u8)) (by simp [hsize]) (fun j u hj => by
          have e1 : (⟨g, 0, none⟩ : Addr).add j = ⟨g, j, none⟩ := by unfold Addr.add; split <;> simp_all
          rw [e1]
          rw [List.getElem?_map] at hj
          obtain ⟨z, hz2, rfl⟩ := Option.map_eq_some_iff.1 hj
          have hjl : j < out.length := (List.getElem?_eq_some_iff.1 hz2).1
          rw [hc j hjl]
          simp [List.getD_eq_getElem?_getD, hz2]) ad news.length cx (news.map (Value.int .u8)) (by simp [hsize]) hcells (by omega) (by omega) (by rw [hby]; exact growslice_fits (by omega) (by omega))
      rw [hrun]
      have hge := grownCap_ge w (out.length + news.length) c e
      have hD := Duo.moved (e := e) (q' := q') (pad := Builtin.zeroCells (Value.int IntKind.u8 0).cells (grownCap w (out.length + news.length) c e - (out.length + news.length))) (C := grownCap w (out.length + news.length) c e) H news hl (.inr (by omega)) hq (by
        have hz1 : (Value.int IntKind.u8 0).cells.size = 1 := rfl
        simp only [size_zeroCells, hz1]
        omega)
      have hfin := hk _ _ _ hD ((Below.refl _ _).drew.alloc (by simpa using Nat.le_of_lt hHeap) _)
      rw [hlen] at hfin
      exact hK _ _ hfin
end Go.Proofs.Ytklllibhgalnfab.G
