/- pretty's ugly: what it makes of a text, into a row of its own or into the text's own row. -/
import Derived.Test.YtklllibhgalnfabProg
import Derived.Test.YtklllibhgalnfabGvD
import Derived.WalkKit
import Derived.WalkSpells
import Derived.WalkLawsBesides
import Derived.Outline
namespace Go.Proofs.Ytklllibhgalnfab.G
set_option linter.unusedVariables false
set_option linter.unusedSimpArgs false
open Go.RowKit Go.Proofs.YtklllibhgalnfabW.PrintWords

/-- How many backslashes the bytes end with. -/
def trail (l : List Int) : Nat := (l.reverse.takeWhile (· == 92)).length
/-- What ugly makes (inside a string or not; written so far; left to read). -/
def uglyF : Bool → List Int → List Int → List Int
  | _, out, [] => out
  | false, out, b :: r => if 32 < b then uglyF (b == 34) (out ++ [b]) r else uglyF false out r
  | true, out, b :: r => uglyF (!(b == 34 && trail out % 2 == 0)) (out ++ [b]) r
theorem info5 : (Try.prog.info? 5).map (fun i => (i.zero, i.size, i.bytes)) = some (some (.int .u8 0), 1, 1) := by kernel_rfl
theorem drop_cons' (l : List Int) (i : Nat) (h : i < l.length) : l.drop i = l.getD i 0 :: l.drop (i + 1) := by
  rw [List.drop_eq_getElem_cons h]; simp [List.getD_eq_getElem?_getD, h]
/-- A slice that holds R, in new memory or from block h on. -/
def Made (R : List Int) (h : Nat) (w : World) (e : Ending) (w' : World) : Prop := ∃ A c, e = .returned (.slice A R.length c) ∧ OutAt w' A c R ∧ Below h w w'
theorem news_one (w : World) (x : Int) (e : TypeId) (j : Nat) (u : Int) (hj : [x][j]? = some u) : (w.alloc (.cells #[.int .u8 x] e)).cell? ((⟨w.heap.size, 0, none⟩ : Addr).add j) = some (.int .u8 u) := by
  match j, hj with
  | 0, hj =>
    injection hj with hj
    subst hj
    have : (w.alloc (.cells #[.int .u8 x] e)).heap[w.heap.size]? = some (.cells #[.int .u8 x] e) := heap_alloc_new w _
    have e0 : (⟨w.heap.size, 0, none⟩ : Addr).add 0 = ⟨w.heap.size, 0, none⟩ := by unfold Addr.add; split <;> simp_all
    rw [e0]
    unfold World.cell?
    simp only [this]
    rfl
theorem same_at {src out : List Int} {k : Nat} {x : Int} (hx : x = src.getD k 0) (hok : out.length ≤ k) (j : Nat) (h1 : k ≤ j) (h2 : j < out.length + [x].length) (h3 : out.length ≤ j) : src.getD j 0 = [x].getD (j - out.length) 0 := by
  have : j = k := by simp at h2; omega
  subst this
  have : j - out.length = 0 := by simp at h2; omega
  rw [this, hx]; rfl
/-- append(dst, src[k]). -/
theorem app1 {ops : Array Oper} {rest : List Oper} {o : Oper} {a : Act} {Q : Exit → Act → World → Prop} {w0 W : World} (hgd : o.guard = none) (sl x : Operand)
    (ho : o.op = .call { callee := .builtin .append, args := #[sl, x], argTypes := #[24, 24] })
    {h : Nat} {A : Option Addr} {c : Nat} {out src : List Int} {k : Nat} {b : Int} {cx : Nat} (hs : a.eval sl = .slice A out.length c) (HD : Aside0 (Duo W h A c out src k)) (HB : Aside0 (Below h w0 W)) (HX : Aside0 (b = src.getD k 0))
    (hk : k < src.length) (hok : out.length ≤ k) (hm : src.length ≤ 140737488351232) (hx : a.eval x = .slice (some ⟨W.heap.size, 0, none⟩) 1 cx)
    (hh : ∀ A' c' w1 o1, Aside0 (o1 = out ++ [b]) → Aside0 (Duo w1 h A' c' o1 src k) → Aside0 (Below h w0 w1) → w1.cell? ⟨h, k, none⟩ = some (.int .u8 b) → wpList Try.prog ops Q rest (a.put o.dst (.slice A' o1.length c')) w1) :
    wpList Try.prog ops Q (o :: rest) a (W.alloc (.cells #[.int .u8 b] 5)) := by
  refine wpList_append_duo hgd sl x 24 5 ho Try.underlying24 info5 h A c out src k k hs (HD.out.below ((Below.refl _ _).alloc (Nat.le_refl _) _)) [b] ⟨W.heap.size, 0, none⟩ 1 cx hx rfl (news_one _ _ _) (by simp) (by simp; omega) hm (Nat.le_refl _) (same_at HX.out hok) ?_
  intro A' c' w1 hd hb
  exact hh A' c' w1 _ ⟨rfl⟩ ⟨hd⟩ ⟨(HB.out.alloc (Nat.le_of_lt HD.out.heap) _).trans hb⟩ (by rw [HX.out]; exact hd.src (Nat.le_refl _) hk)
theorem trail_cons (l : List Int) (b : Int) : trail (l ++ [b]) = if b = 92 then trail l + 1 else 0 := by
  unfold trail
  simp only [List.reverse_append, List.reverse_cons, List.reverse_nil, List.nil_append, List.singleton_append, List.takeWhile_cons]
  by_cases h : b = 92 <;> simp [h]
theorem trail_le (l : List Int) : trail l ≤ l.length := by
  have := List.takeWhile_prefix (· == 92) (l := l.reverse) |>.length_le
  simpa [trail] using this
theorem trail_lt {l : List Int} {t : Nat} (h : t < trail l) : l.getD (l.length - 1 - t) 0 = 92 := by
  have hle := trail_le l
  have h2 : (l.reverse.takeWhile (· == 92))[t]'h = l.reverse[t]'(by simp; omega) := (List.takeWhile_prefix (· == 92)).getElem _
  have h3 : ((l.reverse.takeWhile (· == 92))[t]'h == 92) = true := List.all_takeWhile |> (fun h' => (List.all_eq_true.1 h') _ (List.getElem_mem h))
  rw [h2] at h3
  rw [List.getElem_reverse] at h3
  have h4 : l.length - 1 - t < l.length := by omega
  simpa [List.getD_eq_getElem?_getD, h4] using h3
theorem trail_eq {l : List Int} (h : trail l < l.length) : l.getD (l.length - 1 - trail l) 0 ≠ 92 := by
  have aux : ∀ m : List Int, (h : (m.takeWhile (· == 92)).length < m.length) → m[(m.takeWhile (· == 92)).length]'h ≠ 92 := by
    intro m
    induction m with
    | nil => intro h; simp at h
    | cons a m ih =>
      intro h
      by_cases ha : a = 92
      · subst ha
        simp at h ⊢
        exact ih (by simpa using h)
      · simp [ha]
  have h1 := aux l.reverse (by simpa [trail] using h)
  rw [List.getElem_reverse] at h1
  have h4 : l.length - 1 - trail l < l.length := by omega
  rw [List.getD_eq_getElem?_getD, List.getElem?_eq_getElem h4]
  exact h1
theorem getD_app {l m : List Int} {j : Nat} (h : j < l.length) : (l ++ m).getD j 0 = l.getD j 0 := by simp [List.getD_eq_getElem?_getD, List.getElem?_append_left h]
theorem parity {p t n : Nat} (h : t + p + 1 + 1 = n) : (((p : Int) - ((n : Int) - 1)).tmod 2 != 0) = (t % 2 == 0) := by
  have e : (p : Int) - ((n : Int) - 1) = -((t + 1 : Nat) : Int) := by omega
  rw [e, Int.neg_tmod, show (2 : Int) = ((2 : Nat) : Int) from rfl, ← Int.ofNat_tmod]
  rcases Nat.mod_two_eq_zero_or_one t with h2 | h2
  · rw [show (t + 1) % 2 = 1 by omega, h2]; rfl
  · rw [show (t + 1) % 2 = 0 by omega, h2]; rfl
theorem two_le {out o1 : List Int} {x : Int} (h : o1 = out ++ [x]) (ht : trail out < out.length) : 2 ≤ o1.length := by rw [h, List.length_append, List.length_singleton]; omega
theorem one_more {src out o1 : List Int} {x : Int} {k : Nat} (h : o1 = out ++ [x]) (hok : out.length ≤ k) (hlt : k < src.length) (hm : src.length ≤ 140737488351232) : o1.length ≤ 140737488351232 := by rw [h, List.length_append, List.length_singleton]; omega
theorem uglyF_step_no {out l : List Int} {k : Nat} {x : Int} (hx : x = l.getD k 0) (hlt : k < l.length) (h : ¬ 32 < x) : uglyF false out (l.drop k) = uglyF false out (l.drop (k + 1)) := by
  rw [drop_cons' l k hlt, ← hx, uglyF, if_neg h]
theorem uglyF_step {out l : List Int} {k : Nat} {x : Int} (hx : x = l.getD k 0) (hlt : k < l.length) (h : 32 < x) : uglyF false out (l.drop k) = uglyF (x == 34) (out ++ [x]) (l.drop (k + 1)) := by
  rw [drop_cons' l k hlt, ← hx, uglyF, if_pos h]
theorem uglyF_in {out l : List Int} {k : Nat} {x : Int} (hx : x = l.getD k 0) (hlt : k < l.length) : uglyF true out (l.drop k) = uglyF (!(x == 34 && trail out % 2 == 0)) (out ++ [x]) (l.drop (k + 1)) := by
  rw [drop_cons' l k hlt, ← hx, uglyF]
theorem uglyF_end {out l : List Int} {k : Nat} {m : Bool} (h : ¬ k < l.length) : uglyF m out (l.drop k) = out := by
  rw [List.drop_eq_nil_of_le (by omega)]; cases m <;> rfl

set_option maxHeartbeats 4000000 in
set_option maxRecDepth 100000 in
theorem ugly_walk (src R : List Int) (h cs n c : Nat) (A : Option Addr) (w : World) (H : Duo w h A c [] src 0) (hR : uglyF false [] src = R) (hm : src.length ≤ 140737488351232) (hn : n ≤ c) :
    Calls Try.prog 12 #[.slice A n c, .slice (some ⟨h, 0, none⟩) src.length cs] w (Made R h w) := by
  have H0 := Aside0.mk H
  have HR := Aside0.mk hR
  clear H hR
  go_enter Try.func12, Try.ntmps12
  go_wp2
  go_loopw [0, 5, 6] (fun v i j wr => ∃ (k : Nat) (A : Option Addr) (c : Nat) (out : List Int), k ≤ src.length + 1 ∧ out.length ≤ k ∧ v = .slice A out.length c ∧ i = .int .i64 k ∧ Aside0 (Duo wr h A c out src k) ∧ Aside0 (Below h w wr) ∧ Aside0 (uglyF false out (src.drop k) = R)) (fun _ i _ _ => src.length + 1 - (intOf i).toNat)
  case atStart => exact ⟨0, A, c, [], by omega, by simp, rfl, rfl, H0, ⟨Below.refl _ _⟩, HR⟩
  case round =>
    obtain ⟨k, A, c, out, hk, hok, rfl, rfl, HD, HB, HF⟩ := hrel
    by_cases hlt : k < src.length
    · obtain ⟨x, hx⟩ : ∃ x, x = src.getD k 0 := ⟨_, rfl⟩
      have HX := Aside0.mk hx
      have hc : wr.cell? ⟨h, k, none⟩ = some (.int .u8 x) := by rw [hx]; exact HD.out.src (Nat.le_refl _) hlt
      clear hx
      by_cases h1 : 32 < x
      · by_cases h2 : x = 34
        · subst h2
          go_wp2_with (at_builtin; refine app1 rfl _ _ rfl rfl HD HB HX hlt hok hm rfl ?_; intro A1 c1 w1 o1 HO HD1 HB1 hc1; clear HD HB hc)
          go_loopw [0, 5, 6] (fun v i j wr => ∃ (m : Nat) (A : Option Addr) (c : Nat) (out : List Int), k < m ∧ m ≤ src.length ∧ out.length ≤ m ∧ trail out < out.length ∧ v = .slice A out.length c ∧ i = .int .i64 m ∧ Aside0 (Duo wr h A c out src m) ∧ Aside0 (Below h w wr) ∧ Aside0 (uglyF true out (src.drop m) = R)) (fun _ i _ _ => src.length + 1 - (intOf i).toNat)
          case atStart => exact ⟨k + 1, _, _, _, by omega, by omega, by rw [HO.out, List.length_append, List.length_singleton]; omega, by rw [HO.out, trail_cons, List.length_append, List.length_singleton]; simp, rfl, by go_num, ⟨HD1.out.from' (by omega)⟩, HB1, ⟨by have := HF.out; rw [uglyF_step HX.out hlt h1, ← HO.out] at this; exact this⟩⟩
          case round =>
            clear HX HF HO HD1 HB1 hc1
            obtain ⟨k, A, c, out, hkk, hk, hok, ht, rfl, rfl, HD, HB, HF⟩ := hrel
            by_cases hlt : k < src.length
            · obtain ⟨x, hx⟩ : ∃ x, x = src.getD k 0 := ⟨_, rfl⟩
              have HX := Aside0.mk hx
              have hc : wr.cell? ⟨h, k, none⟩ = some (.int .u8 x) := by rw [hx]; exact HD.out.src (Nat.le_refl _) hlt
              clear hx
              by_cases h2 : x = 34
              · subst h2
                go_wp2_with (at_builtin; refine app1 rfl _ _ rfl rfl HD HB HX hlt hok hm rfl ?_; intro A1 c1 w1 o1 HO HD1 HB1 hc1; have ho2 := two_le HO.out ht; have ho3 := one_more HO.out hok hlt hm; clear HD HB hc)
                have hlen : o1.length = out.length + 1 := by rw [HO.out, List.length_append, List.length_singleton]
                obtain ⟨g, rfl, hg, hlc, hcell, hfr⟩ := HD1.out.cell (by omega)
                have HC := Aside0.mk hcell
                have HN := Aside0.mk hlen
                clear hcell hfr hlc hg hlen
                go_loop [6] (fun j => ∃ t p : Nat, t ≤ trail out ∧ t + p + 1 = out.length ∧ j = .int .i64 p) (fun j => (intOf j).toNat)
                case atStart => exact ⟨0, out.length - 1, by omega, by omega, by have := HN.out; go_num⟩
                case round =>
                  obtain ⟨t, p, htt, hp, rfl⟩ := hrel
                  by_cases h5 : t < trail out
                  · have hcp : w1.cell? ⟨g, p, none⟩ = some (.int .u8 92) := by rw [HC.out p (by have := HN.out; omega), HO.out, getD_app (by omega), show p = out.length - 1 - t by omega, trail_lt h5]
                    have hpl : p < o1.length := by have := HN.out; omega
                    go_wp2
                    go_round
                    case rel => exact ⟨t + 1, p - 1, by omega, by omega, by have := trail_le out; go_num⟩
                    case measure => simp [intOf]; omega
                  · obtain ⟨y, hy⟩ : ∃ y, y = out.getD p 0 := ⟨_, rfl⟩
                    have htt' : t = trail out := by omega
                    have hcp : w1.cell? ⟨g, p, none⟩ = some (.int .u8 y) := by rw [HC.out p (by have := HN.out; omega), HO.out, getD_app (by omega), hy]
                    have hyn : y ≠ 92 := by rw [hy, show p = out.length - 1 - trail out by omega]; exact trail_eq ht
                    have hyb : (y == 92) = false := by simpa using hyn
                    have hpl : p < o1.length := by have := HN.out; omega
                    have hpar := parity (p := p) (t := trail out) (n := o1.length) (by have := HN.out; omega)
                    have HG := HF.out
                    rw [uglyF_in HX.out hlt, ← HO.out, beq_self_eq_true, Bool.true_and] at HG
                    have HF1 := Aside0.mk HG
                    clear hyn hy HG
                    by_cases h6 : (trail out % 2 == 0) = true
                    · rw [h6] at hpar
                      go_wp2
                      go_roundw
                      case rel => exact ⟨k + 1, _, _, _, by omega, by have := HN.out; omega, rfl, by go_num, ⟨HD1.out.from' (by omega)⟩, HB1, ⟨by have := HF1.out; rw [h6] at this; exact this⟩⟩
                      case measure => simp [intOf]; omega
                    · have h6' := Bool.eq_false_iff.2 h6
                      rw [h6'] at hpar
                      go_wp2
                      go_roundw
                      case rel => exact ⟨k + 1, _, _, _, by omega, by omega, by have := HN.out; omega, by rw [HO.out, trail_cons, List.length_append, List.length_singleton]; simp, rfl, by go_num, ⟨HD1.out.from' (by omega)⟩, HB1, ⟨by have := HF1.out; rw [h6'] at this; exact this⟩⟩
                      case measure => simp [intOf]; omega
              · have h2' : (x == 34) = false := by simpa using h2
                go_wp2_with (at_builtin; refine app1 rfl _ _ rfl rfl HD HB HX hlt hok hm rfl ?_; intro A1 c1 w1 o1 HO HD1 HB1 hc1; clear HD HB hc)
                go_roundw
                case rel => exact ⟨k + 1, _, _, _, by omega, by omega, by rw [HO.out, List.length_append, List.length_singleton]; omega, by rw [HO.out, trail_cons, List.length_append, List.length_singleton]; split <;> omega, rfl, by go_num, ⟨HD1.out.from' (by omega)⟩, HB1, ⟨by have := HF.out; rw [uglyF_in HX.out hlt, h2', ← HO.out] at this; exact this⟩⟩
                case measure => simp [intOf]; omega
            · have HE := HF.out
              rw [uglyF_end hlt] at HE
              go_wp2
              go_roundw
              case rel => exact ⟨k + 1, _, _, _, by omega, by omega, rfl, by go_num, ⟨HD.out.from' (by omega)⟩, HB, ⟨by rw [uglyF_end (by omega)]; exact HE⟩⟩
              case measure => simp [intOf]; omega
        · have h2' : (x == 34) = false := by simpa using h2
          go_wp2_with (at_builtin; refine app1 rfl _ _ rfl rfl HD HB HX hlt hok hm rfl ?_; intro A1 c1 w1 o1 HO HD1 HB1 hc1; clear HD HB hc)
          go_roundw
          case rel => exact ⟨k + 1, _, _, _, by omega, by rw [HO.out, List.length_append, List.length_singleton]; omega, rfl, by go_num, ⟨HD1.out.from' (by omega)⟩, HB1, ⟨by have := HF.out; rw [uglyF_step HX.out hlt h1, h2', ← HO.out] at this; exact this⟩⟩
          case measure => simp [intOf]; omega
      · go_wp2
        go_roundw
        case rel => exact ⟨k + 1, _, _, _, by omega, by omega, rfl, by go_num, ⟨HD.out.from' (by omega)⟩, HB, ⟨by have := HF.out; rwa [uglyF_step_no HX.out hlt h1] at this⟩⟩
        case measure => simp [intOf]; omega
    · go_wp2
      go_ret
      unfold Made
      have hr := HF.out
      rw [uglyF_end hlt] at hr
      subst hr
      exact ⟨A, c, rfl, HD.out.1, HB.out⟩
end Go.Proofs.Ytklllibhgalnfab.G
