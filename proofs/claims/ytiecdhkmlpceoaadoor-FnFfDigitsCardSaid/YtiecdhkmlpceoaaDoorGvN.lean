/- Decimal digits: what they spell; strconv's readers on them; the printing of a number. -/
import Derived.Test.YtiecdhkmlpceoaaDoorProg
import Derived.Test.YtiecdhkmlpceoaaDoorWWords
import Derived.Lib.ParseIntB
import Derived.Lib.ParseIntBCases
import Derived.Laws.AppendOwn
import Derived.Laws.BytesArg
import Derived.WalkKit
import Derived.WalkSpells
import Derived.WalkLawsBesides
import Derived.Outline
namespace Go.Proofs.YtiecdhkmlpceoaaDoor.G
set_option linter.unusedVariables false
set_option linter.unusedSimpArgs false
open Go.RowKit Go.Proofs.YtiecdhkmlpceoaaDoorW.PrintWords

/-- The decimal digits of a number. -/
def dgI (n : Nat) : List Int := if h : n < 10 then [48 + (n : Int)] else dgI (n / 10) ++ [48 + ((n % 10 : Nat) : Int)]
termination_by n
decreasing_by omega
theorem dgI_small {n : Nat} (h : n < 10) : dgI n = [48 + (n : Int)] := by rw [dgI, dif_pos h]
theorem dgI_big {n : Nat} (h : ¬ n < 10) : dgI n = dgI (n / 10) ++ [48 + ((n % 10 : Nat) : Int)] := by rw [dgI, dif_neg h]
/-- What digits spell, behind what is read already. -/
def valN : Nat → List Int → Nat
  | acc, [] => acc
  | acc, c :: r => valN (acc * 10 + (c - 48).toNat) r
theorem valN_append : ∀ (a b : List Int) (acc : Nat), valN acc (a ++ b) = valN (valN acc a) b
  | [], _, _ => rfl
  | _ :: a, b, acc => valN_append a b _
theorem dgI_val (n : Nat) : valN 0 (dgI n) = n := by
  induction n using Nat.strongRecOn with
  | _ n ih =>
    by_cases h : n < 10
    · rw [dgI_small h]; simp only [valN]; omega
    · rw [dgI_big h, valN_append, ih (n / 10) (by omega)]; simp only [valN]; omega
def IsDg (l : List Int) : Prop := ∀ c ∈ l, 48 ≤ c ∧ c ≤ 57
theorem dgI_dg (n : Nat) : IsDg (dgI n) := by
  induction n using Nat.strongRecOn with
  | _ n ih =>
    intro c hc
    by_cases h : n < 10
    · rw [dgI_small h] at hc; simp at hc; omega
    · rw [dgI_big h] at hc
      rcases List.mem_append.1 hc with hc | hc
      · exact ih (n / 10) (by omega) c hc
      · simp at hc; omega
theorem dgI_pos (n : Nat) : 0 < (dgI n).length := by
  by_cases h : n < 10
  · rw [dgI_small h]; simp
  · rw [dgI_big h]; simp
theorem dgI_len : ∀ (k n : Nat), n < 10 ^ (k + 1) → (dgI n).length ≤ k + 1
  | 0, n, h => by rw [dgI_small (by omega)]; simp
  | k + 1, n, h => by
    by_cases h2 : n < 10
    · rw [dgI_small h2]; simp
    · rw [dgI_big h2, List.length_append, List.length_singleton]
      have := dgI_len k (n / 10) (by rw [Nat.pow_succ] at h; omega)
      omega
theorem dgI_len20 {n : Nat} (h : n < 18446744073709551616) : (dgI n).length ≤ 20 := dgI_len 19 n (by omega)
theorem valN_ge : ∀ (l : List Int) (acc : Nat), acc ≤ valN acc l
  | [], _ => Nat.le_refl _
  | c :: r, acc => by have := valN_ge r (acc * 10 + (c - 48).toNat); rw [valN]; omega
theorem valN_lt : ∀ (l : List Int) (acc : Nat), IsDg l → valN acc l < (acc + 1) * 10 ^ l.length
  | [], acc, _ => by simp [valN]
  | c :: r, acc, h => by
    have h1 := h c (by simp)
    have := valN_lt r (acc * 10 + (c - 48).toNat) (fun x hx => h x (by simp [hx]))
    rw [valN, List.length_cons, Nat.pow_succ]
    have h2 : acc * 10 + (c - 48).toNat + 1 ≤ (acc + 1) * 10 := by omega
    have h3 := Nat.mul_le_mul_right (10 ^ r.length) h2
    have h4 : (acc + 1) * 10 * 10 ^ r.length = (acc + 1) * (10 ^ r.length * 10) := by rw [Nat.mul_assoc, Nat.mul_comm 10]
    omega
theorem parseM_ok (M : Nat) (hM : M ≤ 18446744073709551615) : ∀ (l : List UInt8) (acc : Nat), IsDg (l.map fun b => (b.toNat : Int)) → valN acc (l.map fun b => (b.toNat : Int)) ≤ M → Lib.parseUintM M acc l = .ok (valN acc (l.map fun b => (b.toNat : Int)))
  | [], acc, _, _ => rfl
  | c :: r, acc, h, hv => by
    have h1 := h (c.toNat : Int) (by simp)
    rw [List.map_cons, valN] at hv ⊢
    have e : ((c.toNat : Int) - 48).toNat = c.toNat - 48 := by omega
    rw [e] at hv ⊢
    have hge := valN_ge (r.map fun b => (b.toNat : Int)) (acc * 10 + (c.toNat - 48))
    rw [Lib.parseUintM, if_pos (by omega), if_neg (by omega), if_neg (by omega)]
    exact parseM_ok M hM r _ (fun x hx => h x (by simp at hx ⊢; exact .inr hx)) hv
theorem parseU_ok {s : ByteArray} {n : Nat} (hs : bytesOf s = dgI n) (hn : n < 18446744073709551616) : Lib.parseUintB 64 s.data.toList = .ok n := by
  have hne : s.data.toList ≠ [] := by
    intro e
    have h1 := dgI_pos n
    rw [← hs] at h1
    unfold bytesOf at h1
    rw [e] at h1
    simp at h1
  unfold Lib.parseUintB
  rw [if_neg hne]
  have hs' : (s.data.toList.map fun b => (b.toNat : Int)) = dgI n := hs
  rw [parseM_ok _ (by decide) _ 0 (by rw [hs']; exact dgI_dg n) (by rw [hs', dgI_val]; omega), hs', dgI_val]
theorem parseI_pos {s : ByteArray} {n : Nat} (hs : bytesOf s = dgI n) (hn : n < 9223372036854775808) : Lib.parseIntB 64 s.data.toList = .ok (n : Int) := by
  have hu := parseU_ok hs (by omega)
  have hd := dgI_dg n
  rw [← hs] at hd
  unfold bytesOf at hd
  generalize s.data.toList = l at *
  match l, hu with
  | [], hu => simp [Lib.parseUintB] at hu
  | c :: r, hu =>
    have h1 := hd (c.toNat : Int) (by simp)
    unfold Lib.parseIntB
    simp only []
    rw [if_neg (by omega), hu]
    simp only []
    rw [if_neg (by omega), if_neg (by omega), if_neg (by omega)]
theorem parseI_neg {s : ByteArray} {n : Nat} (hs : bytesOf s = 45 :: dgI n) (hn : n ≤ 9223372036854775808) : Lib.parseIntB 64 s.data.toList = .ok (-(n : Int)) := by
  unfold bytesOf at hs
  generalize s.data.toList = l at *
  match l, hs with
  | c :: r, hs =>
    rw [List.map_cons] at hs
    injection hs with h1 h2
    have hc : c.toNat = 45 := by omega
    have hr : Lib.parseUintB 64 r = .ok n := by
      have : Lib.parseUintB 64 (⟨r.toArray⟩ : ByteArray).data.toList = .ok n := parseU_ok (s := ⟨r.toArray⟩) (by unfold bytesOf; simpa using h2) (by omega)
      simpa using this
    unfold Lib.parseIntB
    simp only []
    rw [if_pos (by omega), hr]
    simp only []
    rw [if_neg (by omega), if_neg (by omega), if_pos hc]
theorem bytesOf_nums {xs : List Int} (h : ∀ x ∈ xs, 0 ≤ x ∧ x < 256) : bytesOf (strOfNums xs) = xs := by
  unfold bytesOf strOfNums
  simp only [List.map_map]
  conv => rhs; rw [← List.map_id xs]
  refine List.map_congr_left fun x hx => ?_
  obtain ⟨h1, h2⟩ := h x hx
  simp
  omega
/-- The text of a number. -/
def dgS (n : Nat) : ByteArray := strOfNums (dgI n)
theorem bytes_dgS (n : Nat) : bytesOf (dgS n) = dgI n := bytesOf_nums fun x hx => by have := dgI_dg n x hx; omega

/-! ### the printing -/
theorem info5 : (Tryd.prog.info? 5).map (fun i => (i.zero, i.size, i.bytes)) = some (some (.int .u8 0), 1, 1) := by kernel_rfl
def OutB (w : World) (A : Option Addr) (c : Nat) (out : List Int) : Prop :=
  (A = none ∧ out = [] ∧ c = 0) ∨ ∃ g, A = some ⟨g, 0, none⟩ ∧ g < w.heap.size ∧ out.length ≤ c ∧ 0 < out.length ∧ ∀ j, j < out.length → w.cell? ⟨g, j, none⟩ = some (.int .u8 (out.getD j 0))
theorem OutB.below {w w' : World} {A : Option Addr} {c : Nat} {out : List Int} (H : OutB w A c out) (hb : Below w.heap.size w w') : OutB w' A c out := by
  rcases H with h | ⟨g, e, h1, h2, h3, h4⟩
  · exact .inl h
  · exact .inr ⟨g, e, Nat.lt_of_lt_of_le h1 hb.size, h2, h3, fun j hj => by rw [hb.cell (p := ⟨g, j, none⟩) h1]; exact h4 j hj⟩
set_option maxRecDepth 100000 in
/-- append([]byte{d}, out...). -/
theorem app_front {ops : Array Oper} {rest : List Oper} {o : Oper} {a : Act} {Q : Exit → Act → World → Prop} {W : World} (hgd : o.guard = none) (sl x : Operand)
    (ho : o.op = .call { callee := .builtin .append, args := #[sl, x], argTypes := #[55, 55] })
    {A : Option Addr} {c : Nat} {out : List Int} {d : Int} (HO : Aside0 (OutB W A c out)) (hlen : Aside0 (out.length ≤ 64)) (hs : a.eval sl = .slice (some ⟨W.heap.size, 0, none⟩) 1 1) (hx : a.eval x = .slice A out.length c)
    (hk : ∀ A' c' w1 o1, Aside0 (o1 = d :: out) → Aside0 (OutB w1 A' c' o1) → Aside0 (Below W.heap.size W w1) → wpList Tryd.prog ops Q rest (a.put o.dst (.slice A' o1.length c')) w1) :
    wpList Tryd.prog ops Q (o :: rest) a (W.alloc (.cells #[.int .u8 d] 5)) := by
  obtain ⟨i, hi, hzz⟩ := Option.map_eq_some_iff.1 info5
  simp only [Prod.mk.injEq] at hzz
  obtain ⟨hz, hsize, hby⟩ := hzz
  have ht := Tryd.underlying55
  have hnew : (W.alloc (.cells #[.int .u8 d] 5)).heap[W.heap.size]? = some (.cells #[.int .u8 d] 5) := heap_alloc_new W _
  have hcell : (W.alloc (.cells #[.int .u8 d] 5)).cell? ⟨W.heap.size, 0, none⟩ = some (.int .u8 d) := by unfold World.cell?; simp only [hnew]; rfl
  have hb : Below W.heap.size W (W.alloc (.cells #[.int .u8 d] 5)) := (Below.refl _ _).alloc (Nat.le_refl _) _
  have hle := hlen.out
  refine wpList_plain hgd fun K hK => ?_
  unfold Oper.wp execOp
  simp only [ho, resolve, invoke, builtin, Sem.run_bind, Sem.run_pure, Result.andThen_ok, List.map_toArray, List.map_cons, List.map_nil, hs, hx]
  rcases HO.out with ⟨rfl, rfl, rfl⟩ | ⟨g, rfl, h1, h2, h3, h4⟩
  · have hrun : (Builtin.append_ #[55, 55] o.type #[.slice (some ⟨W.heap.size, 0, none⟩) 1 1, .slice none 0 0]).run Tryd.prog (W.alloc (.cells #[.int .u8 d] 5)) = .ok (.slice (some ⟨W.heap.size, 0, none⟩) 1 1) (W.alloc (.cells #[.int .u8 d] 5)) := by
      have hf := run_firstCells_none (P := Tryd.prog) (w := W.alloc (.cells #[.int .u8 d] 5)) 1 0 0 0
      simp [Builtin.append_, run_underlying ht, sizeOf, typeInfo, hi, hsize, Builtin.lenOf, hf, storeCells]
    have e0 : (Value.slice none ([] : List Int).length 0) = .slice none 0 0 := rfl
    rw [e0, hrun]
    refine hK _ _ (hk (some ⟨W.heap.size, 0, none⟩) 1 _ [d] ⟨rfl⟩ ⟨.inr ⟨W.heap.size, rfl, by simp [World.size_alloc], by simp, by simp, fun j hj => ?_⟩⟩ ⟨hb⟩)
    have : j = 0 := by simp at hj; omega
    subst this
    exact hcell
  · have hrun := run_append_grow (P := Tryd.prog) (w := W.alloc (.cells #[.int .u8 d] 5)) 55 o.type 5 i (.int .u8 0) ht hi hz ⟨W.heap.size, 0, none⟩ 1 1 [.int .u8 d] (by simp [hsize]) (fun j u hj => by
        match j, hj with
        | 0, hj =>
          injection hj with hj
          subst hj
          have e1 : (⟨W.heap.size, 0, none⟩ : Addr).add 0 = ⟨W.heap.size, 0, none⟩ := by unfold Addr.add; split <;> simp_all
          rw [e1]; exact hcell) ⟨g, 0, none⟩ out.length c (out.map (Value.int .u8)) (by simp [hsize]) (fun j u hj => by
        have e1 : (⟨g, 0, none⟩ : Addr).add j = ⟨g, j, none⟩ := by unfold Addr.add; split <;> simp_all
        rw [e1, hb.cell (p := ⟨g, j, none⟩) h1]
        rw [List.getElem?_map] at hj
        obtain ⟨z, hz2, rfl⟩ := Option.map_eq_some_iff.1 hj
        rw [h4 j (List.getElem?_eq_some_iff.1 hz2).1]
        simp [List.getD_eq_getElem?_getD, hz2]) (by omega) (by omega) (by rw [hby]; exact growslice_fits (by omega) (by omega))
    rw [hrun]
    have hge := grownCap_ge (W.alloc (.cells #[.int .u8 d] 5)) (1 + out.length) 1 5
    have hfin := hk (some ⟨(W.alloc (.cells #[.int .u8 d] 5)).heap.size, 0, none⟩) (grownCap (W.alloc (.cells #[.int .u8 d] 5)) (1 + out.length) 1 5) ((W.alloc (.cells #[.int .u8 d] 5)).drew.alloc (.cells ([Value.int .u8 d].toArray ++ (out.map (Value.int .u8)).toArray ++ Builtin.zeroCells (Value.int .u8 0).cells (grownCap (W.alloc (.cells #[.int .u8 d] 5)) (1 + out.length) 1 5 - (1 + out.length))) 5)) (d :: out) ⟨rfl⟩ ⟨by
      have hnew2 := heap_alloc_new (W.alloc (.cells #[.int .u8 d] 5)).drew (.cells ([Value.int .u8 d].toArray ++ (out.map (Value.int .u8)).toArray ++ Builtin.zeroCells (Value.int .u8 0).cells (grownCap (W.alloc (.cells #[.int .u8 d] 5)) (1 + out.length) 1 5 - (1 + out.length))) 5)
      refine .inr ⟨_, rfl, by simp [World.size_alloc], by rw [List.length_cons]; omega, by simp, fun j hj => ?_⟩
      have hnew3 : ∀ (X : World) (O : Obj), (X.drew.alloc O).heap[X.heap.size]? = some O := fun X O => heap_alloc_new X.drew O
      unfold World.cell?
      simp only [hnew3]
      have hx : j < ((d :: out).map (Value.int .u8)).length := by simpa using hj
      have e2 : ([Value.int .u8 d].toArray ++ (out.map (Value.int .u8)).toArray ++ Builtin.zeroCells (Value.int .u8 0).cells (grownCap (W.alloc (.cells #[.int .u8 d] 5)) (1 + out.length) 1 5 - (1 + out.length)))[j]? = some (.int .u8 ((d :: out).getD j 0)) := by
        rw [← Array.getElem?_toList, Array.toList_append, Array.toList_append]
        have e3 : [Value.int .u8 d].toArray.toList ++ (out.map (Value.int .u8)).toArray.toList = (d :: out).map (Value.int .u8) := by simp
        rw [e3, List.getElem?_append_left hx]
        simp only [List.getElem?_map, List.getD_eq_getElem?_getD, List.getElem?_eq_getElem hj, Option.map_some, Option.getD_some]
      simpa using e2⟩ ⟨hb.drew.alloc (by simp [World.size_alloc]) _⟩
    rw [List.length_cons, Nat.add_comm out.length 1] at hfin
    exact hK _ _ hfin
theorem OutB.string {w : World} {A : Option Addr} {c : Nat} {xs : List Int} (h : OutB w A c xs) (hp : 0 < xs.length) : (convert 55 9 (.slice A xs.length c)).run Tryd.prog w = .ok (.string (strOfNums xs)) w := by
  rcases h with ⟨rfl, rfl, rfl⟩ | ⟨g, rfl, _, _, _, hcell⟩
  · simp at hp
  · refine run_convert_bytes_arg w 55 5 Tryd.underlying55 Tryd.underlying5 g 0 xs.length c xs rfl (fun i hi => ?_) 9 Tryd.underlying9
    rw [Nat.zero_add]
    exact hcell i hi
end Go.Proofs.YtiecdhkmlpceoaaDoor.G
