/- A Node among the arguments, opened: the value that it holds, and what its size allows. -/
import Derived.Test.YtmomjgkbimeeoaaGvFi
import Derived.SliceStrings
import Derived.SizedLaws
namespace Go.Proofs.Ytmomjgkbimeeoaa.G
set_option linter.unusedVariables false
set_option linter.unusedSimpArgs false
open Go.ChangeShapes Go.RowKit Go.Proofs.YtmomjgkbimeeoaaW.PrintWords

theorem cof9 : Try.prog.cellsOf 9 = 1 := by kernel_rfl
theorem cof3 : Try.prog.cellsOf 3 = 1 := by kernel_rfl
theorem cof22 : Try.prog.cellsOf 22 = 1 := by kernel_rfl
theorem cof23 : Try.prog.cellsOf 23 = 1 := by kernel_rfl
theorem cof25 : Try.prog.cellsOf 25 = 4 := by kernel_rfl
theorem bof25 : Try.prog.bytesOf 25 = 72 := by kernel_rfl
theorem bof9 : Try.prog.bytesOf 9 = 16 := by kernel_rfl
theorem spot_of {w : World} {a : Addr} {v : Value} (h : w.cell? a = some v) : ∃ g o, a = ⟨g, o, none⟩ ∧ g < w.heap.size := by
  have hl := World.block_lt_of_cell? w _ h
  obtain ⟨g, o, s⟩ := a
  cases s with
  | none => exact ⟨g, o, rfl, hl⟩
  | some s =>
    unfold World.cell? at h
    split at h
    · simp at h
    · cases h
theorem add_at (g o i : Nat) : (⟨g, o, none⟩ : Addr).add i = ⟨g, o + i, none⟩ := by
  unfold Addr.add
  by_cases h : i = 0
  · subst h; rfl
  · rw [if_neg h]
/-- The strings of a slice: where they lie, and their sizes. -/
theorem open_strs {H : Type} {enc : TypeId × Value → H} {w : World} {held : Bool} {fuel : Nat} {cs : List Value} {x : DataW H × List MemPlace}
    (h : DataW.trod enc Try.prog w 0 (fun _ => true) held fuel 22 cs = some x) (hw : ∀ m ∈ x.1.weights Try.prog 22, m ≤ reachBytes) :
    ∃ (ks : List ByteArray) (kA : Option Addr) (kc : Nat), cs = [.slice kA ks.length kc] ∧ ks.length ≤ kc ∧ ks.length * 16 ≤ 140737488351232 ∧ (∀ s ∈ ks, s.size ≤ 140737488351232) ∧ StrsAt w kA ks := by
  rcases open_strings Try.underlying22 Try.underlying9 cof9 h with ⟨rfl, rfl⟩ | ⟨a, len, cap, ss, rfl, _, hl, hm, hz, rfl, hcell, hss⟩
  · exact ⟨[], none, 0, rfl, Nat.le_refl _, by simp, fun s hs => absurd hs List.not_mem_nil, fun i hi => absurd hi (Nat.not_lt_zero _)⟩
  · simp only [if_true] at hz
    have hlen : (ss.take len).length = len := by rw [List.length_take]; omega
    have hwl : ∀ m ∈ (ss.length * 16 :: (DataW.weightsAll (H := H) Try.prog 9 (strs (ss.take len)) ++ DataW.weightsAll (H := H) Try.prog 9 (strs (ss.drop len)))), m ≤ reachBytes := by
      intro m hm
      apply hw m
      simp only [DataW.weights, Try.underlying22, bof9]
      rw [show (strs (H := H) (ss.take len)).length + (strs (H := H) (ss.drop len)).length = ss.length by simp [strs]; omega]
      exact hm
    have hr : reachBytes = 140737488351232 := by decide
    have h1 := hwl (ss.length * 16) (List.mem_cons_self ..)
    have hall : ∀ (l : List ByteArray), (∀ m ∈ DataW.weightsAll (H := H) Try.prog 9 (strs l), m ≤ reachBytes) → ∀ s ∈ l, s.size ≤ 140737488351232 := by
      intro l
      induction l with
      | nil => intro _ s hs; cases hs
      | cons b r ih =>
        intro hm s hs
        have e : DataW.weightsAll (H := H) Try.prog 9 (strs (b :: r)) = b.data.toList.length :: DataW.weightsAll (H := H) Try.prog 9 (strs r) := by
          simp [strs, DataW.weightsAll, DataW.weights]
        rw [e] at hm
        rcases List.mem_cons.1 hs with rfl | hs
        · have := hm _ (List.mem_cons_self ..)
          rw [Array.length_toList] at this
          rw [← hr]; exact this
        · exact ih (fun m h => hm m (List.mem_cons_of_mem _ h)) s hs
    refine ⟨ss.take len, some a, cap, by rw [hlen], by rw [hlen]; exact hl, by rw [hlen]; omega, hall _ (fun m hm => hwl m (List.mem_cons_of_mem _ (List.mem_append_left _ hm))), fun i hi => ?_⟩
    rw [hlen] at hi
    have h0 := hcell 0 (by omega)
    obtain ⟨g, o, ea, hg⟩ := spot_of h0
    have ea2 : a = ⟨g, o, none⟩ := by rw [← ea]; rfl
    subst ea2
    have hc := hcell i (by omega)
    rw [add_at] at hc
    refine ⟨g, o, rfl, hg, ?_⟩
    rw [hc]
    congr 2
    simp [List.getD_eq_getElem?_getD, List.getElem?_take, hi, noStr]
    rfl
theorem four {α : Type} {l : List α} (h : l.length = 4) : ∃ a b c d, l = [a, b, c, d] := by
  match l, h with
  | [a, b, c, d], _ => exact ⟨a, b, c, d, rfl⟩
theorem weights_all {H : Type} {e : TypeId} : ∀ {l : List (DataW H)} {d : DataW H}, d ∈ l → ∀ m ∈ d.weights Try.prog e, m ∈ DataW.weightsAll Try.prog e l
  | b :: r, d, hd, m, hm => by
    unfold DataW.weightsAll
    rcases List.mem_cons.1 hd with rfl | hd
    · exact List.mem_append_left _ hm
    · exact List.mem_append_right _ (weights_all hd m hm)
/-- The elements of a slice, one behind the other. -/
theorem collect {H : Type} {enc : TypeId × Value → H} {w : World} {held : Bool} {n g o len : Nat} {elems : List (DataW H × List MemPlace)} (hlen : elems.length = len) (hg : g < w.heap.size)
    (hel : ∀ i, i < len → (w.cells? 0 ((⟨g, o, none⟩ : Addr).add (i * 4)) 4).bind (DataW.trod enc Try.prog w 0 (fun _ => true) held n 25) = elems[i]?)
    (IH : ∀ (cs : List Value) (x : DataW H × List MemPlace), DataW.trod enc Try.prog w 0 (fun _ => true) held n 25 cs = some x → (∀ m ∈ x.1.weights Try.prog 25, m ≤ reachBytes) → ∃ p : Nd, NdAt w (fun _ => True) p cs ∧ Ro p)
    (hw : ∀ x ∈ elems, ∀ m ∈ x.1.weights Try.prog 25, m ≤ reachBytes) :
    ∀ m, m ≤ len → ∃ (kids : List Nd) (xs : List Value), kids.length = m ∧ NdsAt w (fun _ => True) kids xs ∧ xs.length = m * 4 ∧ (∀ q u, xs[q]? = some u → w.cell? ⟨g, o + q, none⟩ = some u) ∧ ∀ a ∈ kids, Ro a := by
  intro m
  induction m with
  | zero => exact fun _ => ⟨[], [], rfl, by unfold NdsAt; rfl, rfl, fun q u h => by simp at h, fun a ha => absurd ha List.not_mem_nil⟩
  | succ m ih =>
    intro hm
    obtain ⟨kids, xs, h1, h2, h3, h4, h5⟩ := ih (by omega)
    have he := hel m (by omega)
    obtain ⟨x, hx⟩ : ∃ x, elems[m]? = some x := ⟨elems[m], List.getElem?_eq_getElem (by omega)⟩
    rw [hx, Option.bind_eq_some_iff] at he
    obtain ⟨cs, hcs, ht⟩ := he
    obtain ⟨_, hc4, hcc⟩ := World.cells?_some hcs
    obtain ⟨p, hp, hpr⟩ := IH cs x ht (hw x (List.mem_of_getElem? hx))
    refine ⟨kids ++ [p], xs ++ cs, by rw [List.length_append, List.length_singleton, h1], h2.snoc hp, by rw [List.length_append, h3, hc4]; omega, fun q u hq => ?_, fun a ha => ?_⟩
    · by_cases hlt : q < xs.length
      · rw [List.getElem?_append_left hlt] at hq
        exact h4 q u hq
      · rw [List.getElem?_append_right (by omega), h3] at hq
        have hq4 : q - m * 4 < 4 := by have := (List.getElem?_eq_some_iff.1 hq).1; omega
        have := hcc (q - m * 4) hq4
        rw [hq, add_at, add_at] at this
        rw [← this]
        congr 2
        omega
    · rcases List.mem_append.1 ha with h | h
      · exact h5 a h
      · have : a = p := by simpa using h
        subst this; exact hpr
/-- A Node that is an argument. -/
theorem open_nd {H : Type} {enc : TypeId × Value → H} {w : World} {held : Bool} (fuel : Nat) : ∀ (cs : List Value) (x : DataW H × List MemPlace), DataW.trod enc Try.prog w 0 (fun _ => true) held fuel 25 cs = some x → (∀ m ∈ x.1.weights Try.prog 25, m ≤ reachBytes) →
    ∃ n : Nd, NdAt w (fun _ => True) n cs ∧ Ro n := by
  induction fuel using Nat.strongRecOn with
  | ind fuel IH =>
    intro cs x h hw
    obtain ⟨xs, n, rfl, rfl, hl, hxl, hf⟩ := DataW.trod_struct Try.underlying25 h
    rw [cof25] at hl
    obtain ⟨c0, c1, c2, c3, rfl⟩ := four hl
    obtain ⟨x0, x1, x2, x3, rfl⟩ := four (show xs.length = 4 from hxl)
    have f0 := hf 0 { name := "Kind", type := 3, offset := 0, embedded := false, tag := "", pkgPath := "", byteOffset := 0 } rfl
    have f1 := hf 1 { name := "Text", type := 9, offset := 1, embedded := false, tag := "", pkgPath := "", byteOffset := 8 } rfl
    have f2 := hf 2 { name := "Keys", type := 22, offset := 2, embedded := false, tag := "", pkgPath := "", byteOffset := 24 } rfl
    have f3 := hf 3 { name := "Kids", type := 23, offset := 3, embedded := false, tag := "", pkgPath := "", byteOffset := 48 } rfl
    simp only [cof3, cof9, cof22, cof23, List.drop_zero, List.take_succ_cons, List.take_zero, List.drop_succ_cons, List.getElem?_cons_zero, List.getElem?_cons_succ] at f0 f1 f2 f3
    obtain ⟨k, e0, _, _⟩ := DataW.trod_int Try.underlying3 f0
    obtain ⟨t, e1, ex1, _⟩ := DataW.trod_string Try.underlying9 f1
    simp only [List.cons.injEq, and_true] at e0 e1
    subst e0 e1
    have hwe : ∀ m, m ∈ x1.1.weights Try.prog 9 ∨ m ∈ x2.1.weights Try.prog 22 ∨ m ∈ x3.1.weights Try.prog 23 → m ≤ reachBytes := by
      intro m hm
      apply hw m
      simp only [DataW.weights, Try.underlying25, DataW.weightsEach, List.map_cons, List.map_nil, List.mem_append, List.not_mem_nil, or_false]
      exact .inr hm
    have hr : reachBytes = 140737488351232 := by decide
    obtain ⟨ks, kA, kc, e2, hkc, hk16, hkz, hks⟩ := open_strs f2 (fun m hm => hwe m (.inr (.inl hm)))
    simp only [List.cons.injEq, and_true] at e2
    subst e2
    have htz : t.size ≤ 140737488351232 := by
      have := hwe t.data.toList.length (.inl (by rw [ex1]; simp [DataW.weights]))
      rw [Array.length_toList, hr] at this
      exact this
    have hkS : Sl w (fun _ => True) 1 (.slice kA ks.length kc) ks.length (ks.map Value.string) := ⟨kA, kc, rfl, hkc, by simp, fun i u hu => by
      rw [List.getElem?_map] at hu
      have hi : i < ks.length := by
        rcases Nat.lt_or_ge i ks.length with h | h
        · exact h
        · rw [List.getElem?_eq_none h] at hu; cases hu
      obtain ⟨g, o, e, hg, hc⟩ := hks i hi
      refine ⟨g, o, e, trivial, hg, ?_⟩
      rw [hc, ← hu, List.getD_eq_getElem?_getD, List.getElem?_eq_getElem hi]
      rfl⟩
    rcases DataW.trod_slice Try.underlying23 f3 with ⟨e3, _⟩ | ⟨a, len, cap, elems, rest, n2, hn2, e3, ex3, _, hlc, hcm, hlen, hel, hsp, _⟩
    · simp only [List.cons.injEq, and_true] at e3
      subst e3
      refine ⟨.mk k t ks [], ?_, ?_⟩
      · unfold NdAt
        exact ⟨_, _, [], rfl, hkS, ⟨none, 0, rfl, Nat.le_refl _, rfl, fun i u h => by simp at h⟩, by unfold NdsAt; rfl⟩
      · unfold Ro Ro1 Ros
        exact ⟨⟨by simp, hk16, htz, hkz⟩, trivial⟩
    · simp only [List.cons.injEq, and_true] at e3
      subst e3
      have hw3 : ∀ m ∈ ((elems.length + rest.length) * 72 :: (DataW.weightsAll Try.prog 25 (elems.map (·.1)) ++ DataW.weightsAll Try.prog 25 (rest.map (·.1)))), m ≤ reachBytes := by
        intro m hm
        apply hwe m
        rw [ex3]
        simp only [DataW.weights, Try.underlying23, bof25, List.length_map]
        exact .inr (.inr hm)
      have h72 := hw3 _ (List.mem_cons_self ..)
      rw [cof25] at hel
      by_cases h0 : len = 0
      · subst h0
        refine ⟨.mk k t ks [], ?_, ?_⟩
        · unfold NdAt
          exact ⟨_, _, [], rfl, hkS, ⟨some a, cap, rfl, Nat.zero_le _, rfl, fun i u h => by simp at h⟩, by unfold NdsAt; rfl⟩
        · unfold Ro Ro1 Ros
          exact ⟨⟨by simp, hk16, htz, hkz⟩, trivial⟩
      · have hfirst := hel 0 (by omega)
        rw [List.getElem?_eq_getElem (by omega : 0 < elems.length), Option.bind_eq_some_iff] at hfirst
        obtain ⟨cs0, hcs0, _⟩ := hfirst
        obtain ⟨_, hc04, hcc0⟩ := World.cells?_some hcs0
        have hv0 := hcc0 0 (by omega)
        rw [List.getElem?_eq_getElem (by omega : 0 < cs0.length)] at hv0
        obtain ⟨g, o, ea, hg⟩ := spot_of hv0
        have ea2 : a = ⟨g, o, none⟩ := by rw [← ea]; simp [Addr.add]
        subst ea2
        obtain ⟨kids, ys, h1, h2, h3, h4, h5⟩ := collect hlen hg hel (fun cs x => IH n2 (by omega) cs x) (fun x hx m hm => hw3 m (List.mem_cons_of_mem _ (List.mem_append_left _ (weights_all (List.mem_map_of_mem hx) m hm)))) len (Nat.le_refl _)
        subst h1
        refine ⟨.mk k t ks kids, ?_, ?_⟩
        · unfold NdAt
          exact ⟨_, _, ys, rfl, hkS, ⟨some ⟨g, o, none⟩, cap, rfl, hlc, h3, fun i u hu => ⟨g, o, rfl, trivial, hg, h4 i u hu⟩⟩, h2⟩
        · unfold Ro Ro1
          exact ⟨⟨by omega, hk16, htz, hkz⟩, ros_iff.2 h5⟩
end Go.Proofs.Ytmomjgkbimeeoaa.G
