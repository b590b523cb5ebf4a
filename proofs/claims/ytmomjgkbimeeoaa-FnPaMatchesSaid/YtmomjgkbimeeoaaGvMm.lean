/- json-patch: the inner equality of values (matchesValue): objects. -/
import Derived.Test.YtmomjgkbimeeoaaGvMw
namespace Go.Proofs.Ytmomjgkbimeeoaa.G
set_option linter.unusedVariables false
set_option linter.unusedSimpArgs false
open Go.RowKit Go.Proofs.YtmomjgkbimeeoaaW.PrintWords

theorem rangesI_kept {w w' : World} {b r n cnt : Nat} {D : DataW Value} {left : Lit → Bool} (h : w.ranges Try.prog 9 heldR b r n D left cnt) (hb : w'.heap[b]? = w.heap[b]?) (hr : w'.heap[r]? = w.heap[r]?) : w'.ranges Try.prog 9 heldR b r n D left cnt := by
  obtain ⟨es, clock, since, seen, c0, h1, h2, h3, h4, h5, h6⟩ := h
  exact ⟨es, clock, since, seen, c0, hb.trans h1, h2, h3, h4, hr.trans h5, h6⟩
theorem keyI_inv {x : ByteArray} {kl : Lit} (h : keyOf Try.prog 9 (.string x) = some kl) : x.size ≤ maxLen ∧ kl = kLit x := by
  rw [Go.keyOf_string Try.underlying9] at h
  simp only [mapKey, Try.underlying9] at h
  split at h
  · rename_i hs
    cases h
    exact ⟨hs, rfl⟩
  · cases h
/-- Both have a member of that name, and they are alike. -/
def Good (ks ks2 : List ByteArray) (kids kids2 : List Nd) (x : ByteArray) : Prop := ∃ i j, ∃ (hi : i < kids.length) (hj : j < kids2.length), memb ks x = some i ∧ memb ks2 x = some j ∧ alike kids[i] kids2[j] = true
def MvD (a b : Nd) : Prop := ∀ (F G : Nat → Prop) (v u : Value) (w : World), VAt w F a v → VAt w G b u → Calls Try.prog 20 #[v, u] w (MatB (alike a b) w)
def MapP (ks ks2 : List ByteArray) (kids kids2 : List Nd) (b : Bool) : Prop := b = true ↔ ks.length = ks2.length ∧ ∀ j (h : j < kids2.length), Good ks ks2 kids kids2 (ks2.getD j noStr)
set_option maxHeartbeats 16000000 in
set_option maxRecDepth 100000 in
theorem mv_map (ks ks2 : List ByteArray) (kids kids2 : List Nd) (F G : Nat → Prop) (m m2 : Nat) (us us2 : List Value) (w : World) (hM : Mi w m ks.length (fOf ks us)) (hV : VsAt w F kids us) (hM2 : Mi w m2 ks2.length (fOf ks2 us2)) (hV2 : VsAt w G kids2 us2)
    (hk : ks.length = kids.length) (hk2 : ks2.length = kids2.length) (hl : ks.length ≤ 140737488351232) (hl2 : ks2.length ≤ 140737488351232) (hnd2 : ks2.Nodup) (hz2 : ∀ x ∈ ks2, x.size ≤ 140737488351232) (IH : ∀ i j (hi : i < kids.length) (hj : j < kids2.length), MvD kids[i] kids2[j]) :
    Calls Try.prog 20 #[.iface 47 (.map (some m)), .iface 47 (.map (some m2))] w (fun e w' => ∃ b, e = .returned (.bool b) ∧ Below w.heap.size w w' ∧ Aside0 (MapP ks ks2 kids kids2 b)) := by
  have h9 := asI71_9
  have h101 := asI71_101
  have h100 := asI71_100
  have h4 := asI71_4
  have h71 := asI71_71
  have hj := asJ71
  have hml := hM.lt
  have HND := Aside0.mk hnd2
  have hml2 := hM2.lt
  have H := Aside0.mk (And.intro hM (And.intro hV (And.intro hM2 (And.intro hV2 (And.intro hk (And.intro hk2 (And.intro hz2 IH)))))))
  obtain ⟨D, hown, hsz, hD⟩ := hM
  obtain ⟨D2, hown2, hsz2, hD2⟩ := hM2
  have HSZ := Aside0.mk (And.intro hsz hsz2)
  have HD2 := Aside0.mk hD2
  clear hD hD2 hsz hsz2 hV hV2 hz2 IH hk hk2
  by_cases hn : ks.length = ks2.length
  · have hd : ((ks2.length : Int) != (ks.length : Int)) = false := by simp [hn]
    have HNE := Aside0.mk hn
    clear hn
    go_enter Try.func20, Try.ntmps20
    go_wp2_with (first
      | (go_at_call 24; refine (zk_71 _ _).mono ?_; rintro e w1 ⟨rfl, hww⟩; rw [hww]; clear hww)
      | (at_len; refine wpList_len_own _ rfl _ 47 rfl 9 20 Try.underlying47 heldR m2 ks2.length D2 rfl hown2 ?_; rw [HSZ.out.2])
      | (at_len; refine wpList_len_own _ rfl _ 47 rfl 9 20 Try.underlying47 heldR m ks.length D rfl hown ?_; rw [HSZ.out.1])
      | (at_range; refine wpList_range_own _ rfl _ 47 rfl 9 20 law Try.underlying47 heldR m2 ks2.length D2 rfl hown2 ?_; intro w0 hrg0 hg0 hs0)
      | fail "none")
    have hb0 : Below w.heap.size w w0 := (Below.refl _ _).grown hg0 (Nat.le_refl _) (fun k h => by cases h)
    have H0 := Aside0.mk (And.intro hrg0 hb0)
    clear hrg0 hg0 hs0 hb0 hd h9 h101 h100 h4 h71 hj hown hown2 hl hl2
    go_frame
    go_loopw [16, 17, 18, 19, 20] (fun _ _ _ _ _ wr => ∃ (left : Lit → Bool) (cnt : Nat), Aside0 (wr.ranges Try.prog 9 heldR m2 w.heap.size ks2.length D2 left cnt ∧ (∀ kl, left kl = true → Maps.has D2 kl = true) ∧ Below w.heap.size w wr ∧ (∀ x : ByteArray, x.size ≤ maxLen → (fOf ks2 us2 x).isSome = true → left (kLit x) = false → Good ks ks2 kids kids2 x))) (fun _ _ _ _ _ wr => wr.rangeLeft m2 w.heap.size)
    case atStart => exact ⟨_, _, ⟨H0.out.1, fun kl h => h, H0.out.2, fun x hx h1 h2 => by rw [(HD2.out x hx).1, h1] at h2; cases h2⟩⟩
    case round =>
      obtain ⟨left, cnt, HL⟩ := hrel
      have hrg := HL.out.1
      go_wp2_with (first
        | (at_next; refine wpList_next_ranges _ rfl _ rfl 9 law heldR Value.string (fun v : Value => v) (fun key kl hk => Maps.keyOf_string_inv Try.underlying9 hk) (fun v y _ => ⟨v, rfl⟩) m2 w.heap.size ks2.length D2 _ _ rfl hrg ?_ ?_)
        | fail)
      · intro h0 hl0
        have HDone := Aside0.mk hl0
        clear h0 hl0 hrg
        go_wp2_with fail
        go_ret
        refine ⟨true, rfl, HL.out.2.2.1, ⟨fun _ => ⟨HNE.out, fun j hj => ?_⟩, fun _ => rfl⟩⟩
        have hjk : j < ks2.length := by rw [H.out.2.2.2.2.2.1]; exact hj
        refine HL.out.2.2.2 _ (by have := H.out.2.2.2.2.2.2.1 _ (getD_mem hjk); unfold maxLen; omega) ?_ (HDone.out _)
        unfold fOf
        obtain ⟨u', hu', _⟩ := H.out.2.2.2.1.get j hj
        rw [memb_nodup HND.out j hjk, Option.bind_some, hu']
        rfl
      · intro x c kl yd yp w1 cnt1 hkey hlk hy hat hrg1 hlt hg1 hs1 hen
        obtain ⟨hx, rfl⟩ := keyI_inv hkey
        cases hy
        have hh := HL.out.2.1 _ hlk
        rw [(HD2.out x hx).1] at hh
        cases hfx : fOf ks2 us2 x with
        | none => rw [hfx] at hh; cases hh
        | some v =>
          have hv := (HD2.out x hx).2 (.held c) v hfx
          rw [hat] at hv
          cases hv
          have hb1 : Below w.heap.size w w1 := HL.out.2.2.1.grown hg1 HL.out.2.2.1.size (fun k h => by cases h; exact Nat.le_refl _)
          have HN := Aside0.mk (And.intro hrg1 (And.intro hb1 (And.intro hlt hrg)))
          have hlk1 := (H.out.1.kept (hb1.block _ hml)).look_ok x hx
          have hlk2 := (H.out.2.2.1.kept (hb1.block _ hml2)).look_ok x hx
          rw [hfx] at hlk2
          have HFX := Aside0.mk (And.intro hfx (And.intro hx hlk))
          clear hb1 hrg1 hlt hrg hkey hlk hat hh hg1 hs1 hx
          obtain ⟨j, hj, hjc⟩ := Option.bind_eq_some_iff.1 (show (memb ks2 x).bind (fun j => us2[j]?) = some c from hfx)
          obtain ⟨hj1, hj2⟩ := memb_lt hj
          have hj3 : j < kids2.length := by rw [← H.out.2.2.2.2.2.1]; exact hj1
          obtain ⟨u', hu', hVc⟩ := H.out.2.2.2.1.get j hj3
          rw [hjc] at hu'
          cases hu'
          have HJ := Aside0.mk (And.intro hj (And.intro hj2 (And.intro hj3 hVc)))
          clear hfx hj hj2 hjc
          cases hmi : memb ks x with
          | none =>
            have hfn : fOf ks us x = none := by unfold fOf; rw [hmi]; rfl
            rw [hfn] at hlk1
            simp only [Option.getD_none, Option.isSome_none, Option.getD_some, Option.isSome_some] at hlk1 hlk2
            have HMI := Aside0.mk hmi
            clear hmi hfn
            go_wp2_with fail
            go_ret
            refine ⟨false, rfl, HN.out.2.1, ⟨(fun h => by cases h), (fun h => ?_)⟩⟩
            obtain ⟨i2, j2, _, _, h3, _, _⟩ := h.2 j HJ.out.2.2.1
            rw [HJ.out.2.1, HMI.out] at h3
            cases h3
          | some i =>
            obtain ⟨hi1, hi2⟩ := memb_lt hmi
            have hi3 : i < kids.length := by rw [← H.out.2.2.2.2.1]; exact hi1
            obtain ⟨u, hu, hVu⟩ := H.out.2.1.get i hi3
            have hfs : fOf ks us x = some u := by unfold fOf; rw [hmi, Option.bind_some, hu]
            rw [hfs] at hlk1
            simp only [Option.getD_some, Option.isSome_some] at hlk1 hlk2
            have HC := Aside0.mk (H.out.2.2.2.2.2.2.2 i j hi3 HJ.out.2.2.1 F G u c w1 (hVu.below HN.out.2.1) (HJ.out.2.2.2.below HN.out.2.1))
            unfold MatB at HC
            have HMI := Aside0.mk (And.intro hmi hi3)
            obtain ⟨bb, hbb⟩ : ∃ bb, bb = alike kids[i] (kids2[j]'hj3) := ⟨_, rfl⟩
            rw [← hbb] at HC
            have HBB := Aside0.mk hbb
            clear hmi hi1 hi2 hu hVu hfs hbb
            cases bb with
            | true =>
              go_wp2_with (first | (go_at_call 20; refine HC.out.mono ?_; rintro e w2 ⟨rfl, hb2⟩; have HB2 := Aside0.mk hb2; clear hb2) | fail "none")
              have hrg2 := rangesI_kept HN.out.1 (HB2.out.block _ (by have := HN.out.2.1.size; omega)) (HB2.out.block _ HN.out.1.lt)
              go_roundw
              case rel =>
                refine ⟨_, cnt1, ⟨hrg2, fun kl h => HL.out.2.1 kl (by simp only [Bool.and_eq_true] at h; exact h.1), below_step HN.out.2.1 HB2.out, fun y hy h1 h2 => ?_⟩⟩
                by_cases hyx : y = x
                · subst hyx
                  exact ⟨i, j, HMI.out.2, HJ.out.2.2.1, HMI.out.1, HJ.out.1, HBB.out.symm⟩
                · refine HL.out.2.2.2 y hy h1 ?_
                  rw [Bool.and_eq_false_iff] at h2
                  rcases h2 with h2 | h2
                  · exact h2
                  · exfalso
                    have h3 : (kLit y).sameKey (kLit x) = true := by simpa using h2
                    exact hyx (kLit_inj (WideAt.sameKey_eq h3))
              case measure => rw [hrg2.left_eq, HN.out.2.2.2.left_eq]; exact HN.out.2.2.1
            | false =>
              go_wp2_with (first | (go_at_call 20; refine HC.out.mono ?_; rintro e w2 ⟨rfl, hb2⟩; have HB2 := Aside0.mk hb2; clear hb2) | fail "none")
              go_ret
              refine ⟨false, rfl, below_step HN.out.2.1 HB2.out, ⟨(fun h => by cases h), (fun h => ?_)⟩⟩
              obtain ⟨i2, j2, h1, h2, h3, h4, h5⟩ := h.2 j HJ.out.2.2.1
              rw [HJ.out.2.1] at h3 h4
              rw [HMI.out.1] at h3
              rw [HJ.out.1] at h4
              cases h3
              cases h4
              rw [← HBB.out] at h5
              cases h5
  · have hd : ((ks2.length : Int) != (ks.length : Int)) = true := by simp; omega
    have HNE := Aside0.mk hn
    clear hn
    go_enter Try.func20, Try.ntmps20
    go_wp2_with (first
      | (go_at_call 24; refine (zk_71 _ _).mono ?_; rintro e w1 ⟨rfl, hww⟩; rw [hww]; clear hww)
      | (at_len; refine wpList_len_own _ rfl _ 47 rfl 9 20 Try.underlying47 heldR m2 ks2.length D2 rfl hown2 ?_; rw [HSZ.out.2])
      | (at_len; refine wpList_len_own _ rfl _ 47 rfl 9 20 Try.underlying47 heldR m ks.length D rfl hown ?_; rw [HSZ.out.1])
      | fail "none")
    go_ret
    exact ⟨false, rfl, Below.refl _ _, ⟨(fun h => by cases h), (fun h => absurd h.1 HNE.out)⟩⟩
end Go.Proofs.Ytmomjgkbimeeoaa.G
