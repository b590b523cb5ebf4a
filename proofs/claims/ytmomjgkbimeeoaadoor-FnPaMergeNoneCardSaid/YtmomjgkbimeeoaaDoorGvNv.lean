/- json-patch: lazy nodes made of values. -/
import Derived.Test.YtmomjgkbimeeoaaDoorGvNa
import Derived.Test.YtmomjgkbimeeoaaDoorGvNd
namespace Go.Proofs.YtmomjgkbimeeoaaDoor.G
set_option linter.unusedVariables false
set_option linter.unusedSimpArgs false
open Go.RowKit Go.Proofs.YtmomjgkbimeeoaaDoorW.PrintWords

theorem node_calls (N : Nat) : ∀ (n : Nd), n.sz ≤ N → Td n → Uq n → Ro n → ∀ (k' : Int) (t' : ByteArray) (kA' : Option Addr) (kn' kc' : Nat) (nA' : Option Addr) (nn' nc' : Nat) (opts : Option Addr) (w : World), NdAt w (fun _ => True) n [.int .i64 k', .string t', .slice kA' kn' kc', .slice nA' nn' nc'] →
    Calls Tryd.prog 60 #[.agg #[.int .i64 k', .string t', .slice kA' kn' kc', .slice nA' nn' nc'], .pointer opts] w (LzA (lz n) w) := by
  induction N with
  | zero => intro n hn; cases n; simp [Nd.sz] at hn
  | succ N IH =>
    rintro ⟨k, t, ks, kids⟩ hn htd huq hro k' t' kA' kn' kc' nA' nn' nc' opts w hat
    obtain ⟨kA, kc, nA, nc, hcs, hkc, hnc, hkeys, hks, hkids⟩ := hat.open
    simp only [List.cons.injEq, and_true, Value.int.injEq, Value.string.injEq, Value.slice.injEq, true_and] at hcs
    obtain ⟨e1, e2, ⟨e3, e4, e5⟩, e6, e7, e8⟩ := hcs
    obtain rfl := e1.symm; obtain rfl := e2.symm; obtain rfl := e3.symm; obtain rfl := e4.symm; obtain rfl := e5.symm; obtain rfl := e6.symm; obtain rfl := e7.symm; obtain rfl := e8.symm
    unfold Td at htd
    unfold Uq at huq
    unfold Ro at hro
    have IHk : ∀ i (hi : i < kids.length) k' t' kA' kn' kc' nA' nn' nc' W, NdAt W (fun _ => True) kids[i] [.int .i64 k', .string t', .slice kA' kn' kc', .slice nA' nn' nc'] → Calls Tryd.prog 60 #[.agg #[.int .i64 k', .string t', .slice kA' kn' kc', .slice nA' nn' nc'], .pointer opts] W (LzA (lz kids[i]) W) :=
      fun i hi k' t' kA' kn' kc' nA' nn' nc' W hAt => IH kids[i] (by have := Nd.sz_kid (k := k) (t := t) (ks := ks) (List.getElem_mem hi); omega) (tds_iff.1 htd.2 _ (List.getElem_mem hi)) (uqs_iff.1 huq.2 _ (List.getElem_mem hi)) (ros_iff.1 hro.2 _ (List.getElem_mem hi)) k' t' kA' kn' kc' nA' nn' nc' opts W hAt
    have h1 := htd.1
    unfold Td1 at h1
    unfold lz
    rcases h1 with ⟨h0, _, _, _⟩ | ⟨rfl, _, _, _⟩ | ⟨rfl, _, _⟩ | ⟨rfl, _, _⟩ | ⟨rfl, _, hl⟩
    · rcases h0 with rfl | rfl | rfl
      · exact node_nul t kA ks.length kc nA kids.length nc (.pointer opts) w
      · exact node_false t kA ks.length kc nA kids.length nc (.pointer opts) w
      · exact node_true t kA ks.length kc nA kids.length nc (.pointer opts) w
    · exact node_num t kA ks.length kc nA kids.length nc (.pointer opts) w
    · exact node_str t hro.1.2.2.1 kA ks.length kc nA kids.length nc (.pointer opts) w
    · refine node_ary t kids kA ks.length kc nA nc opts w hro.1.1 (fun i hi => ?_) IHk
      obtain ⟨g, o, k', t', kA', kn', kc', nA', nn', nc', h1, _, h2, h3⟩ := hkids i hi
      exact ⟨g, o, k', t', kA', kn', kc', nA', nn', nc', h1, h2, h3⟩
    · refine node_doc t ks kids kA kc nA nc opts w hro.1.1 hro.1.2.1 hro.1.2.2.2 hl huq.1 (fun i hi => ?_) (fun i hi => ?_) IHk
      · obtain ⟨g, o, h1, _, h2, h3⟩ := hks i hi
        exact ⟨g, o, h1, h2, h3⟩
      · obtain ⟨g, o, k', t', kA', kn', kc', nA', nn', nc', h1, _, h2, h3⟩ := hkids i hi
        exact ⟨g, o, k', t', kA', kn', kc', nA', nn', nc', h1, h2, h3⟩
/-- null is a node of its own there. -/
def valL (n : Nd) : Lz := if n.kind = 0 then .raw bNull else lz n
set_option maxHeartbeats 4000000 in
set_option maxRecDepth 100000 in
theorem value_calls (n : Nd) (htd : Td n) (huq : Uq n) (hro : Ro n) (k' : Int) (t' : ByteArray) (kA' : Option Addr) (kn' kc' : Nat) (nA' : Option Addr) (nn' nc' : Nat) (opts : Option Addr) (w : World) (hat : NdAt w (fun _ => True) n [.int .i64 k', .string t', .slice kA' kn' kc', .slice nA' nn' nc']) :
    Calls Tryd.prog 47 #[.agg #[.int .i64 k', .string t', .slice kA' kn' kc', .slice nA' nn' nc'], .pointer opts] w (LzA (valL n) w) := by
  have hk : n.kind = k' := by
    cases n with
    | mk k t ks kids =>
      obtain ⟨kA, kc, nA, nc, hcs, _⟩ := hat.open
      simp only [List.cons.injEq, and_true, Value.int.injEq, Value.string.injEq, Value.slice.injEq, true_and] at hcs
      exact hcs.1.symm
  have CN := Aside0.mk (fun W => null_calls W)
  have CV := Aside0.mk (fun W (h : NdAt W (fun _ => True) n [.int .i64 k', .string t', .slice kA' kn' kc', .slice nA' nn' nc']) => node_calls n.sz n (Nat.le_refl _) htd huq hro k' t' kA' kn' kc' nA' nn' nc' opts W h)
  have HA := Aside0.mk hat
  have HK := Aside0.mk hk
  unfold LzA at CN CV
  clear hat htd huq hro
  by_cases h0 : k' = 0
  · have HV : Aside0 (valL n = .raw bNull) := ⟨by unfold valL; rw [if_pos (by rw [HK.out]; exact h0)]⟩
    subst h0
    clear hk
    go_enter Tryd.func47, Tryd.ntmps47
    go_wp2_with (first | (go_at_call 59; refine (CN.out _).mono ?_; rintro e w1 ⟨o, rfl, hb, hA⟩))
    go_ret
    rw [HV.out]
    exact LzA.of (below_step (below_alloc1 _) hb) (hA.out.mono (fun g hg => by unfold Rng at hg ⊢; rw [World.size_alloc] at hg; omega))
  · have HV : Aside0 (valL n = lz n) := ⟨by unfold valL; rw [if_neg (by rw [HK.out]; exact h0)]⟩
    have hkb : (k' == 0) = false := by simpa using h0
    clear hk h0
    go_enter Tryd.func47, Tryd.ntmps47
    go_wp2_with (first | (go_at_call 60; refine (CV.out _ (HA.out.below (below_alloc1 _))).mono ?_; rintro e w1 ⟨o, rfl, hb, hA⟩))
    go_ret
    rw [HV.out]
    exact LzA.of (below_step (below_alloc1 _) hb) (hA.out.mono (fun g hg => by unfold Rng at hg ⊢; rw [World.size_alloc] at hg; omega))
end Go.Proofs.YtmomjgkbimeeoaaDoor.G
