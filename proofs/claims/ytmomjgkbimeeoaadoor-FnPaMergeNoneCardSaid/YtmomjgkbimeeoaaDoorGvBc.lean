/- json-patch: values handed back (back). -/
import Derived.Test.YtmomjgkbimeeoaaDoorGvBb
namespace Go.Proofs.YtmomjgkbimeeoaaDoor.G
set_option linter.unusedVariables false
set_option linter.unusedSimpArgs false
open Go.RowKit Go.Proofs.YtmomjgkbimeeoaaDoorW.PrintWords

/-- A value that a callee has handed back is handed on. -/
theorem pass_post {fn : Func} {w w1 : World} {n : Nd} {a : Act} {c0 c1 c2 c3 : Value} {k : Int} {t : ByteArray} {kA : Option Addr} {kn kc : Nat} {nA : Option Addr} {nn nc : Nat} (hfn : fn.results = #[.cell 2 47]) (hblk : w1.heap[w.heap.size]? = some (.cells #[c0, c1, c2, c3] 47)) (hb : Below w.heap.size w w1)
    (hA : NdAt w1 (fun g => g < 0 ∨ w.heap.size + 1 ≤ g) n [.int .i64 k, .string t, .slice kA kn kc, .slice nA nn nc]) (h2 : a.tmps.getD 2 undef = .pointer (some ⟨w.heap.size, 0, none⟩)) (hd : a.defers = []) :
    bodyPost Tryd.prog fn (NdA 0 n w) .ret a ((((w1.setCell ⟨w.heap.size, 0, none⟩ (.int .i64 k)).setCell ⟨w.heap.size, 1, none⟩ (.string t)).setCell ⟨w.heap.size, 2, none⟩ (.slice kA kn kc)).setCell ⟨w.heap.size, 3, none⟩ (.slice nA nn nc)) := by
  have e0 := res_put (j := 0) (v := .int .i64 k) hblk rfl
  have e1 := res_put (j := 1) (v := .string t) e0 rfl
  have e2 := res_put (j := 2) (v := .slice kA kn kc) e1 rfl
  have e3 := res_put (j := 3) (v := .slice nA nn nc) e2 rfl
  refine bodyPost_ret (nd_ret hfn h2 e3) hd ⟨_, _, _, _, _, _, _, _, rfl, ?_, ⟨?_⟩⟩
  · exact (((hb.setCell (Nat.le_refl _) _).setCell (Nat.le_refl _) _).setCell (Nat.le_refl _) _).setCell (Nat.le_refl _) _
  · refine NdAt.mono (fun g _ hg => by omega) (NdAt.kept (by simp [World.setCell]) (fun g hg hF => ?_) hA)
    have hne : g ≠ w.heap.size := by omega
    rw [Below.heap_setCell _ _ _ _ hne, Below.heap_setCell _ _ _ _ hne, Below.heap_setCell _ _ _ _ hne, Below.heap_setCell _ _ _ _ hne]
set_option maxHeartbeats 16000000 in
set_option maxRecDepth 100000 in
theorem back_doc (ks : List ByteArray) (vs : List Lz) (F : Nat → Prop) (b : Nat) (w : World) (hD : LzAt w F (.doc ks vs) (.pointer (some ⟨b, 0, none⟩))) (hR : Rl (.doc ks vs))
    (IH : ∀ i (hi : i < vs.length) (G : Nat → Prop) (o : Option Addr) (W : World), LzAt W G vs[i] (.pointer o) → Calls Tryd.prog 45 #[.pointer o] W (NdA 0 (back vs[i]) W)) :
    Calls Tryd.prog 45 #[.pointer (some ⟨b, 0, none⟩)] w (NdA 0 (back (.doc ks vs)) w) := by
  have hbW := below_alloc1 (w := w) (.cells #[.int .i64 0, .string ⟨#[]⟩, .slice none 0 0, .slice none 0 0] 47)
  have hz := heap_alloc_new w (.cells #[.int .i64 0, .string ⟨#[]⟩, .slice none 0 0, .slice none 0 0] 47)
  have hs1 : (w.alloc (.cells #[.int .i64 0, .string ⟨#[]⟩, .slice none 0 0, .slice none 0 0] 47)).heap.size = w.heap.size + 1 := World.size_alloc _ _
  obtain ⟨b', rb, db, kA, kc, m, n, sf, opts, us, F1, F2, eb, O⟩ := (hD.below hbW).doc_open (k := vs.length) rfl
  cases eb
  unfold Rl at hR
  have C := backDoc_calls ks vs F F2 db m n kA kc sf opts us _ hR.1.1 hR.1.2.1 hR.1.2.2 O.len O.nodup O.doc O.row O.map O.kids IH
  obtain ⟨b0, b1, b2, b3, bf⟩ := nd_cells O.blk
  have C := Aside0.mk C
  unfold NdA at C
  rw [hs1] at C
  have HB := Aside0.mk (And.intro hbW hz)
  have HS := Aside0.mk hs1
  have he : back (.doc ks vs) = .mk 6 noStr ks (backs vs) := by unfold back; rfl
  have HE := Aside0.mk he
  clear hbW hz hs1 O hD hR IH he b0 b2 bf
  go_enter Tryd.func45, Tryd.ntmps45
  go_wp2_with (first | (go_at_call 54; refine C.out.mono ?_; rintro e w1 ⟨k3, t3, kA3, kn3, kc3, nA3, nn3, nc3, rfl, hb1, hA1⟩; have hrb := (hb1.block w.heap.size (by have := HS.out; omega)).trans HB.out.2; obtain ⟨r0, r1, r2, r3, rf⟩ := nd_cells hrb; have HRB := Aside0.mk hrb; clear hrb))
  rw [HE.out]
  exact pass_post rfl HRB.out (below_step HB.out.1 (by rw [HS.out]; exact hb1)) hA1.out rfl rfl
set_option maxHeartbeats 16000000 in
set_option maxRecDepth 100000 in
theorem back_ary (vs : List Lz) (F : Nat → Prop) (b : Nat) (w : World) (hD : LzAt w F (.ary vs) (.pointer (some ⟨b, 0, none⟩))) (hR : Rl (.ary vs))
    (IH : ∀ i (hi : i < vs.length) (G : Nat → Prop) (o : Option Addr) (W : World), LzAt W G vs[i] (.pointer o) → Calls Tryd.prog 45 #[.pointer o] W (NdA 0 (back vs[i]) W)) :
    Calls Tryd.prog 45 #[.pointer (some ⟨b, 0, none⟩)] w (NdA 0 (back (.ary vs)) w) := by
  have hbW := below_alloc1 (w := w) (.cells #[.int .i64 0, .string ⟨#[]⟩, .slice none 0 0, .slice none 0 0] 47)
  have hz := heap_alloc_new w (.cells #[.int .i64 0, .string ⟨#[]⟩, .slice none 0 0, .slice none 0 0] 47)
  have hs1 : (w.alloc (.cells #[.int .i64 0, .string ⟨#[]⟩, .slice none 0 0, .slice none 0 0] 47)).heap.size = w.heap.size + 1 := World.size_alloc _ _
  obtain ⟨b', rb, ab, nA, nc, sf, us, F1, F2, eb, O⟩ := (hD.below hbW).ary_open (n := vs.length) rfl
  cases eb
  unfold Rl at hR
  have C := backAry_calls vs F F2 ab nA nc sf us _ hR.1 O.ary O.row O.kids IH
  obtain ⟨b0, b1, b2, b3, bf⟩ := nd_cells O.blk
  have C := Aside0.mk C
  unfold NdA at C
  rw [hs1] at C
  have HB := Aside0.mk (And.intro hbW hz)
  have HS := Aside0.mk hs1
  have he : back (.ary vs) = .mk 5 noStr [] (backs vs) := by unfold back; rfl
  have HE := Aside0.mk he
  clear hbW hz hs1 O hD hR IH he b0 b1 bf
  go_enter Tryd.func45, Tryd.ntmps45
  go_wp2_with (first | (go_at_call 55; refine C.out.mono ?_; rintro e w1 ⟨k3, t3, kA3, kn3, kc3, nA3, nn3, nc3, rfl, hb1, hA1⟩; have hrb := (hb1.block w.heap.size (by have := HS.out; omega)).trans HB.out.2; obtain ⟨r0, r1, r2, r3, rf⟩ := nd_cells hrb; have HRB := Aside0.mk hrb; clear hrb))
  rw [HE.out]
  exact pass_post rfl HRB.out (below_step HB.out.1 (by rw [HS.out]; exact hb1)) hA1.out rfl rfl
theorem back_calls (N : Nat) : ∀ (t : Lz), t.sz ≤ N → Rl t → ∀ (F : Nat → Prop) (o : Option Addr) (w : World), LzAt w F t (.pointer o) → Calls Tryd.prog 45 #[.pointer o] w (NdA 0 (back t) w) := by
  induction N with
  | zero => intro t hn; cases t <;> simp [Lz.sz] at hn
  | succ N IH =>
    intro t hn hR F o w hat
    cases t with
    | nul =>
      unfold LzAt at hat
      cases hat
      exact back_nul w
    | raw s =>
      unfold LzAt at hat
      obtain ⟨b, rb, e, _, hb, hr⟩ := hat
      cases e
      unfold Rl at hR
      exact back_raw s F b rb w hR.2 hR.1 hb hr
    | doc ks vs =>
      obtain ⟨b, _, _, _, _, _, _, _, _, _, _, _, e, _⟩ := hat.doc_open rfl
      cases e
      refine back_doc ks vs F b w hat hR (fun i hi G o W hW => IH vs[i] ?_ ?_ G o W hW)
      · have := Lz.szs_mem (List.getElem_mem hi)
        have h2 : (Lz.doc ks vs).sz = Lz.szs vs + 1 := rfl
        omega
      · unfold Rl at hR
        exact rls_iff.1 hR.2 _ (List.getElem_mem hi)
    | ary vs =>
      obtain ⟨b, _, _, _, _, _, _, _, _, e, _⟩ := hat.ary_open rfl
      cases e
      refine back_ary vs F b w hat hR (fun i hi G o W hW => IH vs[i] ?_ ?_ G o W hW)
      · have := Lz.szs_mem (List.getElem_mem hi)
        have h2 : (Lz.ary vs).sz = Lz.szs vs + 1 := rfl
        omega
      · unfold Rl at hR
        exact rls_iff.1 hR.2 _ (List.getElem_mem hi)
end Go.Proofs.YtmomjgkbimeeoaaDoor.G
