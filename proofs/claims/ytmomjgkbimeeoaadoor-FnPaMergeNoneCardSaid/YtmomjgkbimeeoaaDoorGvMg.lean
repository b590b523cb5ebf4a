/- json-patch: merge, DoorMerge and PaMerge where the patch holds but nulls at names that the document has not. -/
import Derived.Test.YtmomjgkbimeeoaaDoorGvMd
namespace Go.Proofs.YtmomjgkbimeeoaaDoor.G
set_option linter.unusedVariables false
set_option linter.unusedSimpArgs false
open Go.RowKit Go.Proofs.YtmomjgkbimeeoaaDoorW.PrintWords

theorem lzs_nul {w : World} : ∀ {ts : List Lz} {F : Nat → Prop} {us : List Value}, (∀ t ∈ ts, t = .nul) → LzsAt w F ts us → ∀ v ∈ us, v = .pointer none
  | [], F, us, _, h, v, hv => by unfold LzsAt at h; subst h; cases hv
  | t :: ts, F, us, ht, h, v, hv => by
    unfold LzsAt at h
    obtain ⟨u, us', F1, F2, rfl, h2, h3, _⟩ := h
    have e := ht t (List.mem_cons_self ..)
    subst e
    unfold LzAt at h2
    subst h2
    rcases List.mem_cons.1 hv with rfl | hv
    · rfl
    · exact lzs_nul (fun t h => ht t (List.mem_cons_of_mem _ h)) h3 v hv
set_option maxHeartbeats 4000000 in
set_option maxRecDepth 100000 in
theorem merge_calls (ks ps : List ByteArray) (vs js : List Lz) (F G : Nat → Prop) (o1 o2 : Option Addr) (O : Nat) (T : TypeId) (u : Value) (w : World) (h1 : LzAt w F (.doc ks vs) (.pointer o1)) (h2 : LzAt w G (.doc ps js) (.pointer o2)) (hj : ∀ t ∈ js, t = .nul) (hdis : ∀ x ∈ ps, x ∉ ks)
    (ho : w.heap[O]? = some (.cells #[.bool true, .int .i64 0, .bool false, .bool false, .bool true] 59)) (hg : w.cell? ⟨2, 0, none⟩ = some (.iface T u)) (hg2 : 2 < w.heap.size) :
    Calls Tryd.prog 46 #[.pointer o1, .pointer o2, .bool false, .pointer (some ⟨O, 0, none⟩)] w (fun e w' => e = .returned (.pointer o1) ∧ Below w.heap.size w w') := by
  obtain ⟨b, rb, db, kA, kc, m, n, sf, opts, us, F1, F2, e1, D1⟩ := h1.doc_open (k := vs.length) rfl
  obtain ⟨b2, rb2, db2, kA2, kc2, m2, n2, sf2, opts2, us2, G1, G2, e2, D2⟩ := h2.doc_open (k := js.length) rfl
  cases e1
  cases e2
  have H1 := Aside0.mk (intoDoc_calls b db _ (.pointer (some ⟨O, 0, none⟩)) w D1.blk)
  have H2 := Aside0.mk (intoDoc_calls b2 db2 _ (.pointer (some ⟨O, 0, none⟩)) w D2.blk)
  have H3 := Aside0.mk (mergeDocs_calls w D1.doc D1.map D2.doc D2.map (fun x v hx hv => by
    unfold fOf at hv
    cases hm : memb ps x with
    | none => rw [hm] at hv; cases hv
    | some j =>
      rw [hm] at hv
      simp only [Option.bind_some] at hv
      obtain ⟨hl, he⟩ := memb_lt hm
      have hmem : x ∈ ps := by rw [← he, List.getD_eq_getElem?_getD, List.getElem?_eq_getElem hl]; exact List.getElem_mem _
      refine ⟨lzs_nul hj D2.kids v (List.mem_of_getElem? hv), ?_⟩
      unfold fOf
      rw [memb_none.2 (hdis x hmem)]
      rfl) ho hg hg2)
  clear D1 D2 h1 h2 hj hdis ho hg hg2
  go_enter Tryd.func46, Tryd.ntmps46
  go_upto_region 2 with (first | (go_at_call 56; refine H1.out.mono ?_; rintro e w1 ⟨rfl, rfl⟩))
  clear H1
  go_wp2_with (first
    | (go_at_call 56; refine H2.out.mono ?_; rintro e w1 ⟨rfl, rfl⟩)
    | (go_at_call 58; refine H3.out.mono ?_; rintro e w1 ⟨rfl, hb⟩))
  go_ret
  exact ⟨rfl, hb⟩
end Go.Proofs.YtmomjgkbimeeoaaDoor.G
