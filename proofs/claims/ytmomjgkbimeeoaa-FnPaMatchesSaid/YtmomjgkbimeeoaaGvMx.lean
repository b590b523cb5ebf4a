/- json-patch: the inner equality of values (matchesValue) is alike. -/
import Derived.Test.YtmomjgkbimeeoaaGvMm
import Derived.Test.YtmomjgkbimeeoaaGvMv
namespace Go.Proofs.Ytmomjgkbimeeoaa.G
set_option linter.unusedVariables false
set_option linter.unusedSimpArgs false
open Go.RowKit Go.Proofs.YtmomjgkbimeeoaaW.PrintWords

theorem mva {b b' : Bool} {v u : Value} {w : World} (e : b = b') (h : Calls Try.prog 20 #[v, u] w (MatB b w)) : Calls Try.prog 20 #[v, u] w (MatB b' w) := e ▸ h
theorem mvi {P : Prop} {x : Bool} {v u : Value} {w : World} (hx : x = true ↔ P) (h : Calls Try.prog 20 #[v, u] w (fun e w' => ∃ b, e = .returned (.bool b) ∧ Below w.heap.size w w' ∧ Aside0 (b = true ↔ P))) : Calls Try.prog 20 #[v, u] w (MatB x w) := by
  refine h.mono ?_
  rintro e w' ⟨b, rfl, h1, h2⟩
  have : b = x := by
    rw [Bool.eq_iff_iff, hx, h2.out]
  subst this
  exact ⟨rfl, h1⟩
/-- Names of two objects, gone through by the second one's. -/
theorem good_iff {ks ks2 : List ByteArray} {kids kids2 : List Nd} (hk2 : ks2.length = kids2.length) (hn2 : ks2.Nodup) {t t2 : ByteArray} (ht : t = t2) (hk : ks.length = kids.length) (hn : ks.Nodup) :
    alike (.mk 6 t ks kids) (.mk 6 t2 ks2 kids2) = true ↔ ks.length = ks2.length ∧ ∀ j (h : j < kids2.length), Good ks ks2 kids kids2 (ks2.getD j noStr) := by
  rw [alike_turn ht hk hk2 hn hn2]
  refine and_congr_right fun _ => forall_congr' fun j => forall_congr' fun hj => ?_
  constructor
  · rintro ⟨i, hi, h1, h2⟩
    exact ⟨i, j, hi, hj, h1, memb_nodup hn2 j (by omega), h2⟩
  · rintro ⟨i, j2, hi, hj2, h1, h3, h2⟩
    rw [memb_nodup hn2 j (by omega)] at h3
    cases h3
    exact ⟨i, hi, h1, h2⟩
theorem kinds_mem {k : Int} {t : ByteArray} {ks : List ByteArray} {kids : List Nd} (h : Td1 k t ks kids) : k = 0 ∨ k = 1 ∨ k = 2 ∨ k = 3 ∨ k = 4 ∨ k = 5 ∨ k = 6 := by
  rcases h with ⟨h0, _⟩ | ⟨rfl, _⟩ | ⟨rfl, _⟩ | ⟨rfl, _⟩ | ⟨rfl, _⟩
  · rcases h0 with rfl | rfl | rfl <;> simp
  all_goals simp
theorem td_leaf {k : Int} {t : ByteArray} {ks : List ByteArray} {kids : List Nd} (h : Td1 k t ks kids) :
    (k = 0 ∨ k = 1 ∨ k = 2 → t = noStr ∧ ks = [] ∧ kids = []) ∧ (k = 3 ∨ k = 4 → ks = [] ∧ kids = []) ∧ (k = 5 → t = noStr ∧ ks = []) ∧ (k = 6 → t = noStr ∧ ks.length = kids.length) := by
  rcases h with ⟨h0, h1, h2, h3⟩ | ⟨rfl, _, h2, h3⟩ | ⟨rfl, h2, h3⟩ | ⟨rfl, h1, h2⟩ | ⟨rfl, h1, h2⟩
  · refine ⟨fun _ => ⟨h1, h2, h3⟩, fun _ => ⟨h2, h3⟩, fun e => ?_, fun e => ?_⟩ <;> subst e <;> simp at h0
  · exact ⟨fun e => by simp at e, fun _ => ⟨h2, h3⟩, fun e => by simp at e, fun e => by simp at e⟩
  · exact ⟨fun e => by simp at e, fun _ => ⟨h2, h3⟩, fun e => by simp at e, fun e => by simp at e⟩
  · exact ⟨fun e => by simp at e, fun e => by simp at e, fun _ => ⟨h1, h2⟩, fun e => by simp at e⟩
  · exact ⟨fun e => by simp at e, fun e => by simp at e, fun e => by simp at e, fun _ => ⟨h1, h2⟩⟩
theorem vat_leaf {w : World} {F : Nat → Prop} {k : Int} {t : ByteArray} {ks : List ByteArray} {kids : List Nd} {v : Value} (h : VAt w F (.mk k t ks kids) v) :
    (k = 0 → v = .nilIface) ∧ (k = 1 → v = .iface 4 (.bool false)) ∧ (k = 2 → v = .iface 4 (.bool true)) ∧ (k = 3 → v = .iface 45 (.string t)) ∧ (k = 4 → v = .iface 9 (.string t)) ∧
    (k = 5 → ∃ g cap us, v = .iface 49 (.slice (some ⟨g, 0, none⟩) kids.length cap) ∧ F g ∧ w.ownsRow 0 20 1 (.slice (some ⟨g, 0, none⟩) kids.length cap) kids.length us ∧ VsAt w F kids us) ∧
    (k = 6 → ∃ m us, v = .iface 47 (.map (some m)) ∧ F m ∧ Mi w m ks.length (fOf ks us) ∧ VsAt w F kids us) := by
  unfold VAt at h
  rcases h with ⟨rfl, h⟩ | ⟨rfl, h⟩ | ⟨rfl, h⟩ | ⟨rfl, h⟩ | ⟨rfl, h⟩ | ⟨rfl, h⟩ | ⟨rfl, h⟩ <;>
    refine ⟨fun e => ?_, fun e => ?_, fun e => ?_, fun e => ?_, fun e => ?_, fun e => ?_, fun e => ?_⟩ <;> first | exact h | exact absurd e (by decide)
theorem mv_calls (N : Nat) : ∀ a : Nd, a.sz ≤ N → Td a → Uq a → Ro a → ∀ b : Nd, Td b → Uq b → Ro b → MvD a b := by
  induction N with
  | zero => intro a ha; cases a; simp [Nd.sz] at ha
  | succ N IH =>
    rintro ⟨k, t, ks, kids⟩ hn htd huq hro ⟨k2, t2, ks2, kids2⟩ htd2 huq2 hro2 F G v u w hv hu
    by_cases hz : zkN k = zkN k2
    · unfold Td at htd htd2
      unfold Uq at huq huq2
      unfold Ro at hro hro2
      have IHk : ∀ i j (hi : i < kids.length) (hj : j < kids2.length), MvD kids[i] kids2[j] := fun i j hi hj =>
        IH kids[i] (by have := Nd.sz_kid (k := k) (t := t) (ks := ks) (List.getElem_mem hi); omega) (tds_iff.1 htd.2 _ (List.getElem_mem hi)) (uqs_iff.1 huq.2 _ (List.getElem_mem hi)) (ros_iff.1 hro.2 _ (List.getElem_mem hi))
          kids2[j] (tds_iff.1 htd2.2 _ (List.getElem_mem hj)) (uqs_iff.1 huq2.2 _ (List.getElem_mem hj)) (ros_iff.1 hro2.2 _ (List.getElem_mem hj))
      have hk1 := kinds_mem htd.1
      have hk2 := kinds_mem htd2.1
      have h1 := td_leaf htd.1
      have h2 := td_leaf htd2.1
      have q1 := vat_leaf hv
      have q2 := vat_leaf hu
      have hr1 := hro.1
      have hr2 := hro2.1
      have hu1 := huq.1
      have hu2 := huq2.1
      clear htd htd2 huq huq2 hro hro2 hn IH hv hu
      have hlf : ks = [] → kids = [] → ks2 = [] → kids2 = [] → k = k2 → alike (.mk k t ks kids) (.mk k2 t2 ks2 kids2) = decide (t = t2) := fun a b c d e => by subst e; exact alike_leaf ks ks2 kids kids2 a b c d
      rcases hk1 with rfl | rfl | rfl | rfl | rfl | rfl | rfl <;> rcases hk2 with rfl | rfl | rfl | rfl | rfl | rfl | rfl
      all_goals first
        | (exfalso; revert hz; decide)
        | skip
      · obtain ⟨a1, a2, a3⟩ := h1.1 (by decide)
        obtain ⟨b1, b2, b3⟩ := h2.1 (by decide)
        rw [q1.1 rfl, q2.1 rfl]
        exact mva (by rw [hlf a2 a3 b2 b3 rfl, a1, b1]; simp) (mv_nil w)
      · obtain ⟨a1, a2, a3⟩ := h1.1 (by decide)
        obtain ⟨b1, b2, b3⟩ := h2.1 (by decide)
        rw [q1.2.1 rfl, q2.2.1 rfl]
        exact mva (by rw [hlf a2 a3 b2 b3 rfl, a1, b1]; simp) (mv_bool _ _ w)
      · rw [q1.2.1 rfl, q2.2.2.1 rfl]
        exact mva (by rw [alike_kind (by simp [Nd.kind])]; rfl) (mv_bool _ _ w)
      · rw [q1.2.2.1 rfl, q2.2.1 rfl]
        exact mva (by rw [alike_kind (by simp [Nd.kind])]; rfl) (mv_bool _ _ w)
      · obtain ⟨a1, a2, a3⟩ := h1.1 (by decide)
        obtain ⟨b1, b2, b3⟩ := h2.1 (by decide)
        rw [q1.2.2.1 rfl, q2.2.2.1 rfl]
        exact mva (by rw [hlf a2 a3 b2 b3 rfl, a1, b1]; simp) (mv_bool _ _ w)
      · obtain ⟨a2, a3⟩ := h1.2.1 (by decide)
        obtain ⟨b2, b3⟩ := h2.2.1 (by decide)
        rw [q1.2.2.2.1 rfl, q2.2.2.2.1 rfl]
        exact mva (by rw [hlf a2 a3 b2 b3 rfl]) (mv_num t t2 w)
      · obtain ⟨a2, a3⟩ := h1.2.1 (by decide)
        obtain ⟨b2, b3⟩ := h2.2.1 (by decide)
        rw [q1.2.2.2.2.1 rfl, q2.2.2.2.2.1 rfl]
        exact mva (by rw [hlf a2 a3 b2 b3 rfl]) (mv_str t t2 w)
      · obtain ⟨a1, a2⟩ := h1.2.2.1 (by decide)
        obtain ⟨b1, b2⟩ := h2.2.2.1 (by decide)
        obtain ⟨g, cap, us, rfl, _, hR, hV⟩ := q1.2.2.2.2.2.1 rfl
        obtain ⟨g2, cap2, us2, rfl, _, hR2, hV2⟩ := q2.2.2.2.2.2.1 rfl
        refine mvi (alike_ary (by rw [a1, b1]) (by rw [a2, b2])) (mv_ary _ _ _ _ _ _ _ w (matchAry_calls kids kids2 F G g cap g2 cap2 us us2 w hR hV hR2 hV2 (by have := hr1.1; omega) (fun i hi hj => IHk i i hi hj)))
      · obtain ⟨a1, a2⟩ := h1.2.2.2 (by decide)
        obtain ⟨b1, b2⟩ := h2.2.2.2 (by decide)
        obtain ⟨m, us, rfl, _, hM, hV⟩ := q1.2.2.2.2.2.2 rfl
        obtain ⟨m2, us2, rfl, _, hM2, hV2⟩ := q2.2.2.2.2.2.2 rfl
        exact mvi (good_iff b2 hu2 (by rw [a1, b1]) a2 hu1) (mv_map ks ks2 kids kids2 F G m m2 us us2 w hM hV hM2 hV2 a2 b2 (by have := hr1.2.1; omega) (by have := hr2.2.1; omega) hu2 hr2.2.2.2 IHk)
    · refine mva (alike_kind (a := .mk k t ks kids) (b := .mk k2 t2 ks2 kids2) (fun e => hz (congrArg zkN e))).symm (mv_other hv hu hz)
end Go.Proofs.Ytmomjgkbimeeoaa.G
