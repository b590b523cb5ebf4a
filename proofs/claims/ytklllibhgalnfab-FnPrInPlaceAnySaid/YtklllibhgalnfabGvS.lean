/- pretty's spec: what it makes of a text, into a row of its own or into the text's own row. -/
import Derived.Test.YtklllibhgalnfabGvU
namespace Go.Proofs.Ytklllibhgalnfab.G
set_option linter.unusedVariables false
set_option linter.unusedSimpArgs false
open Go.RowKit Go.Proofs.YtklllibhgalnfabW.PrintWords

/-- The comma ahead of a closing bracket becomes a blank. -/
def fixF : Nat → List Int → List Int
  | 0, l => l
  | n + 1, l => if l.getD n 0 ≤ 32 then fixF n l else if l.getD n 0 = 44 then l.set n 32 else l
theorem fixF_length : ∀ n l, (fixF n l).length = l.length
  | 0, l => rfl
  | n + 1, l => by unfold fixF; split; · exact fixF_length n l
                   · split <;> simp
def nx (r : List Int) : Int := r.getD 0 0
theorem nx_drop (l : List Int) (j : Nat) : nx (l.drop j) = l.getD j 0 := by unfold nx; simp [List.getD_eq_getElem?_getD]
/-- What spec makes: 0 outside of comments and strings, 1 in a line's comment, 2 in a comment of blocks, 3 in a string, 4 to 6 at a byte that is passed by (behind it 1, 2, 0). -/
def specF : Nat → List Int → List Int → List Int
  | _, out, [] => out
  | 0, out, b :: r =>
    if b = 47 ∧ nx r = 47 then specF 4 (out ++ [32, 32]) r
    else if b = 47 ∧ nx r = 42 then specF 5 (out ++ [32, 32]) r
    else if b = 34 then specF 3 (out ++ [b]) r
    else if b = 125 ∨ b = 93 then specF 0 (fixF out.length (out ++ [b])) r
    else specF 0 (out ++ [b]) r
  | 1, out, b :: r => if b = 10 then specF 0 (out ++ [b]) r else if b = 9 ∨ b = 13 then specF 1 (out ++ [b]) r else specF 1 (out ++ [32]) r
  | 2, out, b :: r => if r = [] then out else if b = 42 ∧ nx r = 47 then specF 6 (out ++ [32, 32]) r else if b = 10 ∨ b = 9 ∨ b = 13 then specF 2 (out ++ [b]) r else specF 2 (out ++ [32]) r
  | 3, out, b :: r => specF (if b = 34 ∧ trail out % 2 = 0 then 0 else 3) (out ++ [b]) r
  | 4, out, _ :: r => specF 1 out r
  | 5, out, _ :: r => specF 2 out r
  | _, out, _ :: r => specF 0 out r
section
variable {out l : List Int} {k : Nat} {x y : Int}
theorem specF_end {m : Nat} (h : ¬ k < l.length) : specF m out (l.drop k) = out := by
  rw [List.drop_eq_nil_of_le (by omega)]; unfold specF; rfl
theorem sp_line (hx : x = l.getD k 0) (hy : y = l.getD (k + 1) 0) (hlt : k + 1 < l.length) (h1 : x = 47) (h2 : y = 47) : specF 0 out (l.drop k) = specF 1 (out ++ [32, 32]) (l.drop (k + 2)) := by
  rw [drop_cons' l k (by omega), ← hx, specF, nx_drop, ← hy, if_pos ⟨h1, h2⟩, drop_cons' l (k + 1) hlt, specF]
theorem sp_block (hx : x = l.getD k 0) (hy : y = l.getD (k + 1) 0) (hlt : k + 1 < l.length) (h1 : x = 47) (h2 : y = 42) : specF 0 out (l.drop k) = specF 2 (out ++ [32, 32]) (l.drop (k + 2)) := by
  rw [drop_cons' l k (by omega), ← hx, specF, nx_drop, ← hy, if_neg (by omega), if_pos ⟨h1, h2⟩, drop_cons' l (k + 1) hlt, specF]
theorem sp_string (hx : x = l.getD k 0) (hlt : k < l.length) (h1 : x = 34) : specF 0 out (l.drop k) = specF 3 (out ++ [x]) (l.drop (k + 1)) := by
  rw [drop_cons' l k (by omega), ← hx, specF, if_neg (by omega), if_neg (by omega), if_pos h1]
theorem sp_fix (hx : x = l.getD k 0) (hlt : k < l.length) (h1 : x = 125 ∨ x = 93) : specF 0 out (l.drop k) = specF 0 (fixF out.length (out ++ [x])) (l.drop (k + 1)) := by
  rw [drop_cons' l k (by omega), ← hx, specF, if_neg (by omega), if_neg (by omega), if_neg (by omega), if_pos h1]
theorem sp_plain (hx : x = l.getD k 0) (hlt : k < l.length) (h0 : x ≠ 47 ∨ (l.getD (k + 1) 0 ≠ 47 ∧ l.getD (k + 1) 0 ≠ 42)) (h1 : x ≠ 34) (h2 : x ≠ 125) (h3 : x ≠ 93) : specF 0 out (l.drop k) = specF 0 (out ++ [x]) (l.drop (k + 1)) := by
  rw [drop_cons' l k (by omega), ← hx, specF, nx_drop, if_neg (by rintro ⟨a, b⟩; rcases h0 with h | ⟨h, _⟩ <;> contradiction), if_neg (by rintro ⟨a, b⟩; rcases h0 with h | ⟨_, h⟩ <;> contradiction), if_neg h1, if_neg (by omega)]
theorem sp1_end (hx : x = l.getD k 0) (hlt : k < l.length) (h1 : x = 10) : specF 1 out (l.drop k) = specF 0 (out ++ [x]) (l.drop (k + 1)) := by
  rw [drop_cons' l k (by omega), ← hx, specF, if_pos h1]
theorem sp1_keep (hx : x = l.getD k 0) (hlt : k < l.length) (h1 : x = 9 ∨ x = 13) : specF 1 out (l.drop k) = specF 1 (out ++ [x]) (l.drop (k + 1)) := by
  rw [drop_cons' l k (by omega), ← hx, specF, if_neg (by omega), if_pos h1]
theorem sp1_blank (hx : x = l.getD k 0) (hlt : k < l.length) (h1 : x ≠ 10) (h2 : x ≠ 9) (h3 : x ≠ 13) : specF 1 out (l.drop k) = specF 1 (out ++ [32]) (l.drop (k + 1)) := by
  rw [drop_cons' l k (by omega), ← hx, specF, if_neg (by omega), if_neg (by omega)]
theorem drop_ne (hlt : k + 1 < l.length) : ¬ l.drop (k + 1) = [] := by rw [drop_cons' l (k + 1) hlt]; simp
theorem sp2_end (h : ¬ k + 1 < l.length) : specF 2 out (l.drop k) = out := by
  by_cases hlt : k < l.length
  · rw [drop_cons' l k hlt, specF, if_pos (List.drop_eq_nil_of_le (by omega))]
  · exact specF_end hlt
theorem sp2_close (hx : x = l.getD k 0) (hy : y = l.getD (k + 1) 0) (hlt : k + 1 < l.length) (h1 : x = 42) (h2 : y = 47) : specF 2 out (l.drop k) = specF 0 (out ++ [32, 32]) (l.drop (k + 2)) := by
  rw [drop_cons' l k (by omega), ← hx, specF, nx_drop, ← hy, if_neg (drop_ne hlt), if_pos ⟨h1, h2⟩, drop_cons' l (k + 1) hlt, specF] <;> simp
theorem sp2_keep (hx : x = l.getD k 0) (hlt : k + 1 < l.length) (h1 : x = 10 ∨ x = 9 ∨ x = 13) : specF 2 out (l.drop k) = specF 2 (out ++ [x]) (l.drop (k + 1)) := by
  rw [drop_cons' l k (by omega), ← hx, specF, if_neg (drop_ne hlt), if_neg (by omega), if_pos h1]
theorem sp2_blank (hx : x = l.getD k 0) (hlt : k + 1 < l.length) (h0 : x ≠ 42 ∨ l.getD (k + 1) 0 ≠ 47) (h1 : x ≠ 10) (h2 : x ≠ 9) (h3 : x ≠ 13) : specF 2 out (l.drop k) = specF 2 (out ++ [32]) (l.drop (k + 1)) := by
  rw [drop_cons' l k (by omega), ← hx, specF, nx_drop, if_neg (drop_ne hlt), if_neg (by rintro ⟨a, b⟩; rcases h0 with h | h <;> contradiction), if_neg (by omega)]
theorem sp3 (hx : x = l.getD k 0) (hlt : k < l.length) : specF 3 out (l.drop k) = specF (if x = 34 ∧ trail out % 2 = 0 then 0 else 3) (out ++ [x]) (l.drop (k + 1)) := by
  rw [drop_cons' l k (by omega), ← hx, specF]
end
theorem news_two (w : World) (x : Int) (e : TypeId) (j : Nat) (u : Int) (hj : [x, x][j]? = some u) : (w.alloc (.cells #[.int .u8 x, .int .u8 x] e)).cell? ((⟨w.heap.size, 0, none⟩ : Addr).add j) = some (.int .u8 u) := by
  have : (w.alloc (.cells #[.int .u8 x, .int .u8 x] e)).heap[w.heap.size]? = some (.cells #[.int .u8 x, .int .u8 x] e) := heap_alloc_new w _
  have e0 : (⟨w.heap.size, 0, none⟩ : Addr).add j = ⟨w.heap.size, j, none⟩ := by unfold Addr.add; split <;> simp_all
  rw [e0]
  unfold World.cell?
  simp only [this]
  match j, hj with
  | 0, hj => injection hj with hj; subst hj; rfl
  | 1, hj => injection hj with hj; subst hj; rfl
section
variable {ops : Array Oper} {rest : List Oper} {o : Oper} {a : Act} {Q : Exit → Act → World → Prop} {w0 W : World}
/-- append(dst, src[k]) where dst is as long as k. -/
theorem appk (hgd : o.guard = none) (sl x : Operand)
    (ho : o.op = .call { callee := .builtin .append, args := #[sl, x], argTypes := #[24, 24] })
    {h : Nat} {A : Option Addr} {c : Nat} {out src : List Int} {q k : Nat} {b : Int} {cx : Nat} (hs : a.eval sl = .slice A out.length c) (HD : Aside0 (Duo W h A c out src q)) (HB : Aside0 (Below h w0 W)) (HX : Aside0 (b = src.getD k 0))
    (hk : k < src.length) (hok : Aside0 (out.length = k)) (hqk : q ≤ k) (hm : src.length ≤ 140737488351232) (hx : a.eval x = .slice (some ⟨W.heap.size, 0, none⟩) 1 cx)
    (hh : ∀ A' c' w1 o1, Aside0 (o1 = out ++ [b]) → Aside0 (Duo w1 h A' c' o1 src q) → Aside0 (Below h w0 w1) → w1.cell? ⟨h, k, none⟩ = some (.int .u8 b) → wpList Try.prog ops Q rest (a.put o.dst (.slice A' o1.length c')) w1) :
    wpList Try.prog ops Q (o :: rest) a (W.alloc (.cells #[.int .u8 b] 5)) := by
  have hok' := hok.out
  refine wpList_append_duo hgd sl x 24 5 ho Try.underlying24 info5 h A c out src q q hs (HD.out.below ((Below.refl _ _).alloc (Nat.le_refl _) _)) [b] ⟨W.heap.size, 0, none⟩ 1 cx hx rfl (news_one _ _ _) (by simp) (by simp; omega) hm (Nat.le_refl _) (fun j h1 h2 h3 => same_at HX.out (Nat.le_of_eq hok') j (by omega) h2 h3) ?_
  intro A' c' w1 hd hb
  exact hh A' c' w1 _ ⟨rfl⟩ ⟨hd⟩ ⟨(HB.out.alloc (Nat.le_of_lt HD.out.heap) _).trans hb⟩ (by rw [HX.out]; exact hd.src hqk hk)
/-- append(dst, ' ') where dst is as long as k. -/
theorem app32 (hgd : o.guard = none) (sl x : Operand)
    (ho : o.op = .call { callee := .builtin .append, args := #[sl, x], argTypes := #[24, 24] })
    {h : Nat} {A : Option Addr} {c : Nat} {out src : List Int} {k : Nat} {b : Int} {cx : Nat} (hs : a.eval sl = .slice A out.length c) (HD : Aside0 (Duo W h A c out src k)) (HB : Aside0 (Below h w0 W))
    (hk : k < src.length) (hok : Aside0 (out.length = k)) (hm : src.length ≤ 140737488351232) (hx : a.eval x = .slice (some ⟨W.heap.size, 0, none⟩) 1 cx)
    (hh : ∀ A' c' w1 o1, Aside0 (o1 = out ++ [b]) → Aside0 (Duo w1 h A' c' o1 src (k + 1)) → Aside0 (Below h w0 w1) → wpList Try.prog ops Q rest (a.put o.dst (.slice A' o1.length c')) w1) :
    wpList Try.prog ops Q (o :: rest) a (W.alloc (.cells #[.int .u8 b] 5)) := by
  have hok' := hok.out
  refine wpList_append_duo hgd sl x 24 5 ho Try.underlying24 info5 h A c out src k (k + 1) hs (HD.out.below ((Below.refl _ _).alloc (Nat.le_refl _) _)) [b] ⟨W.heap.size, 0, none⟩ 1 cx hx rfl (news_one _ _ _) (by simp) (by simp; omega) hm (by omega) (fun j h1 h2 h3 => by simp at h2; omega) ?_
  intro A' c' w1 hd hb
  exact hh A' c' w1 _ ⟨rfl⟩ ⟨hd⟩ ⟨(HB.out.alloc (Nat.le_of_lt HD.out.heap) _).trans hb⟩
/-- append(dst, ' ', ' ') where dst is as long as k. -/
theorem app3232 (hgd : o.guard = none) (sl x : Operand)
    (ho : o.op = .call { callee := .builtin .append, args := #[sl, x], argTypes := #[24, 24] })
    {h : Nat} {A : Option Addr} {c : Nat} {out src : List Int} {k : Nat} {b : Int} {cx : Nat} (hs : a.eval sl = .slice A out.length c) (HD : Aside0 (Duo W h A c out src k)) (HB : Aside0 (Below h w0 W))
    (hk : k + 1 < src.length) (hok : Aside0 (out.length = k)) (hm : src.length ≤ 140737488351232) (hx : a.eval x = .slice (some ⟨W.heap.size, 0, none⟩) 2 cx)
    (hh : ∀ A' c' w1 o1, Aside0 (o1 = out ++ [b, b]) → Aside0 (Duo w1 h A' c' o1 src (k + 2)) → Aside0 (Below h w0 w1) → wpList Try.prog ops Q rest (a.put o.dst (.slice A' o1.length c')) w1) :
    wpList Try.prog ops Q (o :: rest) a (W.alloc (.cells #[.int .u8 b, .int .u8 b] 5)) := by
  have hok' := hok.out
  refine wpList_append_duo hgd sl x 24 5 ho Try.underlying24 info5 h A c out src k (k + 2) hs (HD.out.below ((Below.refl _ _).alloc (Nat.le_refl _) _)) [b, b] ⟨W.heap.size, 0, none⟩ 2 cx hx rfl (news_two _ _ _) (by simp) (by simp; omega) hm (by omega) (fun j h1 h2 h3 => by simp at h2; omega) ?_
  intro A' c' w1 hd hb
  exact hh A' c' w1 _ ⟨rfl⟩ ⟨hd⟩ ⟨(HB.out.alloc (Nat.le_of_lt HD.out.heap) _).trans hb⟩
end
theorem len1 {out o1 : List Int} {x : Int} {k : Nat} (h : o1 = out ++ [x]) (hok : out.length = k) : o1.length = k + 1 := by rw [h, List.length_append, List.length_singleton, hok]
theorem len2 {out o1 : List Int} {x : Int} {k : Nat} (h : o1 = out ++ [x, x]) (hok : out.length = k) : o1.length = k + 2 := by rw [h, List.length_append, hok]; rfl
theorem parity2 {p t n : Nat} (h : t + p + 1 = n) : (((p : Int) - (n : Int)).tmod 2 != 0) = (t % 2 == 0) := by
  have := parity (p := p) (t := t) (n := n + 1) (by omega)
  rw [← this]
  congr 2
  omega
theorem trail_stop {l : List Int} {k : Nat} (hk : k < l.length) (h : l.getD k 0 ≠ 92) : trail l ≤ l.length - 1 - k := by
  rcases Nat.lt_or_ge (l.length - 1 - k) (trail l) with h2 | h2
  · have := trail_lt h2
    rw [show l.length - 1 - (l.length - 1 - k) = k by omega] at this
    contradiction
  · exact h2

theorem Duo.base {w : World} {h g : Nat} {c : Nat} {out src : List Int} {q : Nat} (H : Duo w h (some ⟨g, 0, none⟩) c out src q) : h ≤ g := by
  rcases H.2.2.2.2 with hd | ⟨hd, _⟩
  · exact Nat.le_of_lt (hd _ rfl)
  · injection hd with hd; injection hd with hd; omega
theorem keep_same {out src o1 : List Int} {x : Int} {k m : Nat} (HO : o1 = out ++ [x]) (hl : out.length = m) (HS : ∀ j, k ≤ j → j < m → out.getD j 0 = src.getD j 0) (HX : x = src.getD m 0) (j : Nat) (h1 : k ≤ j) (h2 : j < m + 1) : o1.getD j 0 = src.getD j 0 := by
  rcases Nat.lt_or_ge j m with h3 | h3
  · rw [HO, getD_app (by omega)]; exact HS j h1 h3
  · obtain rfl : j = m := by omega
    rw [HO, ← HX]
    simp [List.getD_eq_getElem?_getD, ← hl]
theorem one_le {out o1 : List Int} {x : Int} (h : o1 = out ++ [x]) : 1 ≤ o1.length := by rw [h, List.length_append, List.length_singleton]; omega
theorem one_more' {src out o1 : List Int} {x : Int} {k : Nat} (h : o1 = out ++ [x]) (hok : out.length = k) (hlt : k < src.length) (hm : src.length ≤ 140737488351232) : o1.length ≤ 140737488351232 := by rw [h, List.length_append, List.length_singleton]; omega
theorem fix_low {l : List Int} {q : Nat} {y : Int} (hy : y = l.getD q 0) (h : y ≤ 32) : fixF (q + 1) l = fixF q l := by rw [fixF, ← hy, if_pos h]
theorem fix_comma {l : List Int} {q : Nat} {y : Int} (hy : y = l.getD q 0) (h : y = 44) : fixF (q + 1) l = l.set q 32 := by rw [fixF, ← hy, if_neg (by omega), if_pos h]
theorem fix_other {l : List Int} {q : Nat} {y : Int} (hy : y = l.getD q 0) (h1 : ¬ y ≤ 32) (h2 : y ≠ 44) : fixF (q + 1) l = l := by rw [fixF, ← hy, if_neg h1, if_neg h2]

set_option maxHeartbeats 8000000 in
set_option maxRecDepth 100000 in
theorem spec_walk (src R : List Int) (h cs n c : Nat) (A : Option Addr) (w : World) (H : Duo w h A c [] src 0) (hR : specF 0 [] src = R) (hm : src.length ≤ 140737488351232) (hn : n ≤ c) :
    Calls Try.prog 13 #[.slice (some ⟨h, 0, none⟩) src.length cs, .slice A n c] w (Made R h w) := by
  have H0 := Aside0.mk H
  have HR := Aside0.mk hR
  clear H hR
  go_enter Try.func13, Try.ntmps13
  go_wp2
  go_loopw [1, 5, 6, 7] (fun v i j j2 wr => ∃ (k : Nat) (A : Option Addr) (c : Nat) (out : List Int), k ≤ src.length + 1 ∧ Aside0 (k < src.length → out.length = k) ∧ v = .slice A out.length c ∧ i = .int .i64 k ∧ Aside0 (Duo wr h A c out src k) ∧ Aside0 (Below h w wr) ∧ Aside0 (specF 0 out (src.drop k) = R)) (fun _ i _ _ _ => src.length + 1 - (intOf i).toNat)
  case atStart => exact ⟨0, A, c, [], by omega, ⟨fun _ => rfl⟩, rfl, rfl, H0, ⟨Below.refl _ _⟩, HR⟩
  case round =>
    obtain ⟨k, A, c, out, hk, hok, rfl, rfl, HD, HB, HF⟩ := hrel
    by_cases hlt : k < src.length
    · have hkk := Aside0.mk (hok.out hlt)
      obtain ⟨x, hx⟩ : ∃ x, x = src.getD k 0 := ⟨_, rfl⟩
      have HX := Aside0.mk hx
      have hc : wr.cell? ⟨h, k, none⟩ = some (.int .u8 x) := by rw [hx]; exact HD.out.src (Nat.le_refl _) hlt
      clear hx hok
      by_cases h1 : x = 47
      · subst h1
        by_cases h2 : k + 1 < src.length
        · obtain ⟨y, hy⟩ : ∃ y, y = src.getD (k + 1) 0 := ⟨_, rfl⟩
          have HY := Aside0.mk hy
          have hc2 : wr.cell? ⟨h, k + 1, none⟩ = some (.int .u8 y) := by rw [hy]; exact HD.out.src (by omega) h2
          clear hy
          by_cases h3 : y = 47
          · subst h3
            go_wp2_with (at_builtin; refine app3232 rfl _ _ rfl rfl HD HB h2 hkk hm rfl ?_; intro A1 c1 w1 o1 HO HD1 HB1; clear HD HB hc hc2)
            as_aux_lemma =>
              have HG := HF.out
              rw [sp_line HX.out HY.out h2 rfl rfl, ← HO.out] at HG
              have HF1 := Aside0.mk HG
              have HL := Aside0.mk (len2 HO.out hkk.out)
              clear HG HX HY HO HF hkk
              go_loopw [1, 5] (fun v i wr => ∃ (m : Nat) (A : Option Addr) (c : Nat) (out : List Int), k < m ∧ m ≤ src.length ∧ Aside0 (out.length = m) ∧ v = .slice A out.length c ∧ i = .int .i64 m ∧ Aside0 (Duo wr h A c out src m) ∧ Aside0 (Below h w wr) ∧ Aside0 (specF 1 out (src.drop m) = R)) (fun _ i _ => src.length - (intOf i).toNat)
              case atStart => exact ⟨k + 2, A1, c1, o1, by omega, by omega, HL, rfl, by go_num, HD1, HB1, HF1⟩
              case round =>
                clear HD1 HB1 HF1 HL
                obtain ⟨m, A, c, out, hkm, hmm, hok, rfl, rfl, HD, HB, HF⟩ := hrel
                by_cases hlt2 : m < src.length
                · obtain ⟨x, hx⟩ : ∃ x, x = src.getD m 0 := ⟨_, rfl⟩
                  have HX := Aside0.mk hx
                  have hc : wr.cell? ⟨h, m, none⟩ = some (.int .u8 x) := by rw [hx]; exact HD.out.src (Nat.le_refl _) hlt2
                  clear hx
                  by_cases h5 : x = 10
                  · subst h5
                    go_wp2_with (at_builtin; refine appk rfl _ _ rfl rfl HD HB HX hlt2 hok (Nat.le_refl _) hm rfl ?_; intro A1 c1 w1 o1 HO HD1 HB1 hc1; clear HD HB hc)
                    go_roundw
                    case rel => exact ⟨m + 1, _, _, _, by omega, ⟨fun _ => len1 HO.out hok.out⟩, rfl, by go_num, ⟨HD1.out.from' (by omega)⟩, HB1, ⟨by have := HF.out; rw [sp1_end HX.out hlt2 rfl, ← HO.out] at this; exact this⟩⟩
                    case measure => simp [intOf]; omega
                  · have h5' : (x == 10) = false := by simpa using h5
                    by_cases h6 : x = 9
                    · subst h6
                      go_wp2_with (at_builtin; refine appk rfl _ _ rfl rfl HD HB HX hlt2 hok (Nat.le_refl _) hm rfl ?_; intro A1 c1 w1 o1 HO HD1 HB1 hc1; clear HD HB hc)
                      go_roundw
                      case rel => exact ⟨m + 1, _, _, _, by omega, by omega, ⟨len1 HO.out hok.out⟩, rfl, by go_num, ⟨HD1.out.from' (by omega)⟩, HB1, ⟨by have := HF.out; rw [sp1_keep HX.out hlt2 (.inl rfl), ← HO.out] at this; exact this⟩⟩
                      case measure => simp [intOf]; omega
                    · have h6' : (x == 9) = false := by simpa using h6
                      by_cases h7 : x = 13
                      · subst h7
                        go_wp2_with (at_builtin; refine appk rfl _ _ rfl rfl HD HB HX hlt2 hok (Nat.le_refl _) hm rfl ?_; intro A1 c1 w1 o1 HO HD1 HB1 hc1; clear HD HB hc)
                        go_roundw
                        case rel => exact ⟨m + 1, _, _, _, by omega, by omega, ⟨len1 HO.out hok.out⟩, rfl, by go_num, ⟨HD1.out.from' (by omega)⟩, HB1, ⟨by have := HF.out; rw [sp1_keep HX.out hlt2 (.inr rfl), ← HO.out] at this; exact this⟩⟩
                        case measure => simp [intOf]; omega
                      · have h7' : (x == 13) = false := by simpa using h7
                        go_wp2_with (at_builtin; refine app32 rfl _ _ rfl rfl HD HB hlt2 hok hm rfl ?_; intro A1 c1 w1 o1 HO HD1 HB1; clear HD HB hc)
                        go_roundw
                        case rel => exact ⟨m + 1, _, _, _, by omega, by omega, ⟨len1 HO.out hok.out⟩, rfl, by go_num, HD1, HB1, ⟨by have := HF.out; rw [sp1_blank HX.out hlt2 h5 h6 h7, ← HO.out] at this; exact this⟩⟩
                        case measure => simp [intOf]; omega
                · have HE := HF.out
                  rw [specF_end hlt2] at HE
                  go_wp2
                  go_roundw
                  case rel => exact ⟨m + 1, _, _, _, by omega, ⟨fun h => absurd h (by omega)⟩, rfl, by go_num, ⟨HD.out.from' (by omega)⟩, HB, ⟨by rw [specF_end (by omega)]; exact HE⟩⟩
                  case measure => simp [intOf]; omega
          · by_cases h4 : y = 42
            · subst h4
              go_wp2_with (at_builtin; refine app3232 rfl _ _ rfl rfl HD HB h2 hkk hm rfl ?_; intro A1 c1 w1 o1 HO HD1 HB1; clear HD HB hc hc2)
              as_aux_lemma =>
                have HG := HF.out
                rw [sp_block HX.out HY.out h2 rfl rfl, ← HO.out] at HG
                have HF1 := Aside0.mk HG
                have HL := Aside0.mk (len2 HO.out hkk.out)
                clear HG HX HY HO HF hkk
                go_loopw [1, 5] (fun v i wr => ∃ (m : Nat) (A : Option Addr) (c : Nat) (out : List Int), k < m ∧ m ≤ src.length ∧ Aside0 (out.length = m) ∧ v = .slice A out.length c ∧ i = .int .i64 m ∧ Aside0 (Duo wr h A c out src m) ∧ Aside0 (Below h w wr) ∧ Aside0 (specF 2 out (src.drop m) = R)) (fun _ i _ => src.length - (intOf i).toNat)
                case atStart => exact ⟨k + 2, A1, c1, o1, by omega, by omega, HL, rfl, by go_num, HD1, HB1, HF1⟩
                case round =>
                  clear HD1 HB1 HF1 HL
                  obtain ⟨m, A, c, out, hkm, hmm, hok, rfl, rfl, HD, HB, HF⟩ := hrel
                  by_cases hlt2 : m + 1 < src.length
                  · have hlt3 : m < src.length := by omega
                    obtain ⟨x, hx⟩ : ∃ x, x = src.getD m 0 := ⟨_, rfl⟩
                    obtain ⟨y, hy⟩ : ∃ y, y = src.getD (m + 1) 0 := ⟨_, rfl⟩
                    have HX := Aside0.mk hx
                    have HY := Aside0.mk hy
                    have hc : wr.cell? ⟨h, m, none⟩ = some (.int .u8 x) := by rw [hx]; exact HD.out.src (Nat.le_refl _) hlt3
                    have hc2 : wr.cell? ⟨h, m + 1, none⟩ = some (.int .u8 y) := by rw [hy]; exact HD.out.src (by omega) hlt2
                    clear hx hy
                    by_cases hz : x = 42 ∧ y = 47
                    · obtain ⟨rfl, rfl⟩ := hz
                      go_wp2_with (at_builtin; refine app3232 rfl _ _ rfl rfl HD HB hlt2 hok hm rfl ?_; intro A1 c1 w1 o1 HO HD1 HB1; clear HD HB hc hc2)
                      go_roundw
                      case rel => exact ⟨m + 2, _, _, _, by omega, ⟨fun _ => len2 HO.out hok.out⟩, rfl, by go_num, HD1, HB1, ⟨by have := HF.out; rw [sp2_close HX.out HY.out hlt2 rfl rfl, ← HO.out] at this; exact this⟩⟩
                      case measure => simp [intOf]; omega
                    · have hz1 : x = 42 ∧ (y == 47) = false ∨ (x == 42) = false := by
                        rcases Decidable.em (x = 42) with h | h
                        · exact .inl ⟨h, by simpa using fun hy => hz ⟨h, hy⟩⟩
                        · exact .inr (by simpa using h)
                      have HZ : Aside0 (x ≠ 42 ∨ src.getD (m + 1) 0 ≠ 47) := ⟨by rw [← HY.out]; omega⟩
                      clear hz
                      by_cases h5 : x = 10 ∨ x = 9 ∨ x = 13
                      · rcases h5 with rfl | rfl | rfl
                        all_goals
                          clear hz1
                          go_wp2_with (at_builtin; refine appk rfl _ _ rfl rfl HD HB HX hlt3 hok (Nat.le_refl _) hm rfl ?_; intro A1 c1 w1 o1 HO HD1 HB1 hc1; clear HD HB hc hc2)
                          go_roundw
                          case rel => exact ⟨m + 1, _, _, _, by omega, by omega, ⟨len1 HO.out hok.out⟩, rfl, by go_num, ⟨HD1.out.from' (by omega)⟩, HB1, ⟨by have := HF.out; rw [sp2_keep HX.out hlt2 (by decide), ← HO.out] at this; exact this⟩⟩
                          case measure => simp [intOf]; omega
                      · have h6 : x ≠ 10 := by omega
                        have h7 : x ≠ 9 := by omega
                        have h8 : x ≠ 13 := by omega
                        have h6' : (x == 10) = false := by simpa using h6
                        have h7' : (x == 9) = false := by simpa using h7
                        have h8' : (x == 13) = false := by simpa using h8
                        have HN := Aside0.mk (And.intro h6 (And.intro h7 h8))
                        clear h5 h6 h7 h8
                        rcases hz1 with ⟨rfl, hz1⟩ | hz1
                        all_goals
                          go_wp2_with (at_builtin; refine app32 rfl _ _ rfl rfl HD HB hlt3 hok hm rfl ?_; intro A1 c1 w1 o1 HO HD1 HB1; clear HD HB hc hc2)
                          go_roundw
                          case rel => exact ⟨m + 1, _, _, _, by omega, by omega, ⟨len1 HO.out hok.out⟩, rfl, by go_num, HD1, HB1, ⟨by have := HF.out; rw [sp2_blank HX.out hlt2 HZ.out HN.out.1 HN.out.2.1 HN.out.2.2, ← HO.out] at this; exact this⟩⟩
                          case measure => simp [intOf]; omega
                  · have HE := HF.out
                    rw [sp2_end hlt2] at HE
                    go_wp2
                    go_roundw
                    case rel => exact ⟨m + 1, _, _, _, by omega, ⟨fun h => absurd h (by omega)⟩, rfl, by go_num, ⟨HD.out.from' (by omega)⟩, HB, ⟨by rw [specF_end (by omega)]; exact HE⟩⟩
                    case measure => simp [intOf]; omega
            · have h3' : (y == 47) = false := by simpa using h3
              have h4' : (y == 42) = false := by simpa using h4
              go_wp2_with (at_builtin; refine appk rfl _ _ rfl rfl HD HB HX hlt hkk (Nat.le_refl _) hm rfl ?_; intro A1 c1 w1 o1 HO HD1 HB1 hc1; clear HD HB hc hc2)
              go_roundw
              case rel => exact ⟨k + 1, _, _, _, by omega, ⟨fun _ => len1 HO.out hkk.out⟩, rfl, by go_num, ⟨HD1.out.from' (by omega)⟩, HB1, ⟨by have := HF.out; rw [sp_plain HX.out hlt (.inr ⟨HY.out ▸ h3, HY.out ▸ h4⟩) (by omega) (by omega) (by omega), ← HO.out] at this; exact this⟩⟩
              case measure => simp [intOf]; omega
        · have hz : src.getD (k + 1) 0 = 0 := by simp [List.getD_eq_getElem?_getD, List.getElem?_eq_none (show src.length ≤ k + 1 by omega)]
          have HZ := Aside0.mk hz
          clear hz
          go_wp2_with (at_builtin; refine appk rfl _ _ rfl rfl HD HB HX hlt hkk (Nat.le_refl _) hm rfl ?_; intro A1 c1 w1 o1 HO HD1 HB1 hc1; clear HD HB hc)
          go_roundw
          case rel => exact ⟨k + 1, _, _, _, by omega, ⟨fun _ => len1 HO.out hkk.out⟩, rfl, by go_num, ⟨HD1.out.from' (by omega)⟩, HB1, ⟨by have := HF.out; rw [sp_plain HX.out hlt (.inr (by rw [HZ.out]; decide)) (by omega) (by omega) (by omega), ← HO.out] at this; exact this⟩⟩
          case measure => simp [intOf]; omega
      · have h1' : (x == 47) = false := by simpa using h1
        by_cases h2 : x = 34
        · subst h2
          go_wp2_with (at_builtin; refine appk rfl _ _ rfl rfl HD HB HX hlt hkk (Nat.le_refl _) hm rfl ?_; intro A1 c1 w1 o1 HO HD1 HB1 hc1; clear HD HB hc)
          as_aux_lemma =>
            have HG := HF.out
            rw [sp_string HX.out hlt rfl, ← HO.out] at HG
            have HF1 := Aside0.mk HG
            have HL := Aside0.mk (len1 HO.out hkk.out)
            have HS1 : Aside0 (∀ j, k ≤ j → j < k + 1 → o1.getD j 0 = src.getD j 0) := ⟨keep_same HO.out hkk.out (fun j h1 h2 => absurd h2 (by omega)) HX.out⟩
            clear HG HO HF hkk
            go_loopw [1, 5, 6] (fun v i j wr => ∃ (m : Nat) (A : Option Addr) (c : Nat) (out : List Int), k < m ∧ m ≤ src.length ∧ Aside0 (out.length = m) ∧ v = .slice A out.length c ∧ i = .int .i64 m ∧ Aside0 (Duo wr h A c out src k) ∧ Aside0 (∀ j, k ≤ j → j < m → out.getD j 0 = src.getD j 0) ∧ Aside0 (Below h w wr) ∧ Aside0 (specF 3 out (src.drop m) = R)) (fun _ i _ _ => src.length - (intOf i).toNat)
            case atStart => exact ⟨k + 1, A1, c1, o1, by omega, by omega, HL, rfl, by go_num, HD1, HS1, HB1, HF1⟩
            case round =>
              have HQ := HX
              clear HD1 HB1 HF1 HL HS1 hc1 HX
              obtain ⟨m, A, c, out, hkm, hmm, hok, rfl, rfl, HD, HS, HB, HF⟩ := hrel
              by_cases hlt2 : m < src.length
              · obtain ⟨x, hx⟩ : ∃ x, x = src.getD m 0 := ⟨_, rfl⟩
                have HX := Aside0.mk hx
                have hc : wr.cell? ⟨h, m, none⟩ = some (.int .u8 x) := by rw [hx]; exact HD.out.src (by omega) hlt2
                have hkm' : k ≤ m := by omega
                clear hx
                by_cases h5 : x = 34
                · subst h5
                  go_wp2_with (at_builtin; refine appk rfl _ _ rfl rfl HD HB HX hlt2 hok hkm' hm rfl ?_; intro A1 c1 w1 o1 HO HD1 HB1 hc1; clear HD HB hc)
                  have HT : Aside0 (trail out ≤ m - 1 - k) := ⟨by
                    have := trail_stop (l := out) (k := k) (by rw [hok.out]; exact hkm) (by rw [HS.out k (Nat.le_refl _) hkm, ← HQ.out]; decide)
                    rw [hok.out] at this; exact this⟩
                  go_loop [6] (fun j => ∃ t p : Nat, t ≤ trail out ∧ t + p + 1 = m ∧ j = .int .i64 p) (fun j => (intOf j).toNat)
                  case atStart => exact ⟨0, m - 1, by omega, by omega, by go_num⟩
                  case round =>
                    obtain ⟨t, p, htt, hp, rfl⟩ := hrel
                    have hkp : k ≤ p := by have := HT.out; omega
                    have hps : p < src.length := by omega
                    by_cases h6 : t < trail out
                    · have hcp : w1.cell? ⟨h, p, none⟩ = some (.int .u8 92) := by
                        rw [HD1.out.src hkp hps, ← HS.out p hkp (by omega), show p = out.length - 1 - t by have := hok.out; omega, trail_lt h6]
                      have hp1 : 1 ≤ p := by have := HT.out; omega
                      go_wp2
                      go_round
                      case rel => exact ⟨t + 1, p - 1, by omega, by omega, by go_num⟩
                      case measure => simp [intOf]; omega
                    · obtain ⟨y, hy⟩ : ∃ y, y = out.getD p 0 := ⟨_, rfl⟩
                      have htt' : t = trail out := by omega
                      have hcp : w1.cell? ⟨h, p, none⟩ = some (.int .u8 y) := by rw [HD1.out.src hkp hps, ← HS.out p hkp (by omega), hy]
                      have hyn : y ≠ 92 := by rw [hy, show p = out.length - 1 - trail out by have := hok.out; omega]; exact trail_eq (by have := hok.out; have := HT.out; omega)
                      have hyb : (y != 92) = true := by simpa using hyn
                      have hpar := parity2 (p := p) (t := trail out) (n := m) (by omega)
                      have HG := HF.out
                      rw [sp3 HX.out hlt2, ← HO.out] at HG
                      have HF1 := Aside0.mk HG
                      clear hyn hy HG
                      by_cases h7 : trail out % 2 = 0
                      · rw [h7] at hpar
                        have hpar' : (((p : Int) - (m : Int)).tmod 2 != 0) = true := hpar
                        clear hpar
                        go_wp2
                        go_roundw
                        case rel => exact ⟨m + 1, _, _, _, by omega, ⟨fun _ => len1 HO.out hok.out⟩, rfl, by go_num, ⟨HD1.out.from' (by omega)⟩, HB1, ⟨by have := HF1.out; rw [if_pos ⟨rfl, h7⟩] at this; exact this⟩⟩
                        case measure => simp [intOf]; omega
                      · have h8 : trail out % 2 = 1 := by omega
                        rw [h8] at hpar
                        have hpar' : (((p : Int) - (m : Int)).tmod 2 != 0) = false := hpar
                        clear hpar
                        go_wp2
                        go_roundw
                        case rel => exact ⟨m + 1, _, _, _, by omega, by omega, ⟨len1 HO.out hok.out⟩, rfl, by go_num, HD1, ⟨keep_same HO.out hok.out HS.out HX.out⟩, HB1, ⟨by have := HF1.out; rw [if_neg (fun z => h7 z.2)] at this; exact this⟩⟩
                        case measure => simp [intOf]; omega
                · have h5' : (x == 34) = false := by simpa using h5
                  go_wp2_with (at_builtin; refine appk rfl _ _ rfl rfl HD HB HX hlt2 hok hkm' hm rfl ?_; intro A1 c1 w1 o1 HO HD1 HB1 hc1; clear HD HB hc)
                  go_roundw
                  case rel => exact ⟨m + 1, _, _, _, by omega, by omega, ⟨len1 HO.out hok.out⟩, rfl, by go_num, HD1, ⟨keep_same HO.out hok.out HS.out HX.out⟩, HB1, ⟨by have := HF.out; rw [sp3 HX.out hlt2, if_neg (fun z => h5 z.1), ← HO.out] at this; exact this⟩⟩
                  case measure => simp [intOf]; omega
              · have HE := HF.out
                rw [specF_end hlt2] at HE
                go_wp2
                go_roundw
                case rel => exact ⟨m + 1, _, _, _, by omega, ⟨fun h => absurd h (by omega)⟩, rfl, by go_num, ⟨HD.out.from' (by omega)⟩, HB, ⟨by rw [specF_end (by omega)]; exact HE⟩⟩
                case measure => simp [intOf]; omega
        · have h2' : (x == 34) = false := by simpa using h2
          by_cases h3 : x = 125
          · subst h3
            go_wp2_with (at_builtin; refine appk rfl _ _ rfl rfl HD HB HX hlt hkk (Nat.le_refl _) hm rfl ?_; intro A1 c1 w1 o1 HO HD1 HB1 hc1; have ho2 := one_le HO.out; have ho3 := one_more' HO.out hkk.out hlt hm; clear HD HB hc)
            as_aux_lemma =>
              have HG := HF.out
              rw [sp_fix HX.out hlt (by decide), ← HO.out, hkk.out] at HG
              have HF1 := Aside0.mk HG
              have HL := Aside0.mk (len1 HO.out hkk.out)
              obtain ⟨g, rfl, hg, hlc, hcell, hfr⟩ := HD1.out.cell (by omega)
              have HC := Aside0.mk hcell
              have HFr := Aside0.mk hfr
              clear HG HO HF hkk HX hcell hfr hg hlc hc1
              go_loop [7] (fun j => (j = .int .i64 (-1) ∧ Aside0 (o1 = fixF k o1)) ∨ ∃ q : Nat, q < k ∧ j = .int .i64 q ∧ Aside0 (fixF (q + 1) o1 = fixF k o1)) (fun j => (intOf j + 1).toNat)
              case atStart =>
                rcases Nat.eq_zero_or_pos k with hk0 | hk0
                · refine .inl ⟨by have := HL.out; go_num, ⟨by rw [hk0]; rfl⟩⟩
                · refine .inr ⟨k - 1, by omega, by have := HL.out; go_num, ⟨by rw [Nat.sub_add_cancel hk0]⟩⟩
              case round =>
                rcases hrel with ⟨rfl, HZ⟩ | ⟨q, hq, rfl, HZ⟩
                · go_wp2
                  go_roundw
                  case rel => exact ⟨k + 1, _, _, o1, by omega, ⟨fun _ => HL.out⟩, rfl, by go_num, ⟨HD1.out.from' (by omega)⟩, HB1, ⟨by have := HF1.out; rw [← HZ.out] at this; exact this⟩⟩
                  case measure => simp [intOf]; omega
                · obtain ⟨y, hy⟩ : ∃ y, y = o1.getD q 0 := ⟨_, rfl⟩
                  have HY := Aside0.mk hy
                  have hql : q < o1.length := by have := HL.out; omega
                  have hcq : w1.cell? ⟨g, q, none⟩ = some (.int .u8 y) := by rw [HC.out q hql, hy]
                  clear hy
                  by_cases h7 : y ≤ 32
                  · go_wp2
                    go_round
                    case rel =>
                      rcases Nat.eq_zero_or_pos q with hq0 | hq0
                      · exact .inl ⟨by go_num, ⟨by have := HZ.out; rw [fix_low HY.out h7, hq0] at this; exact this⟩⟩
                      · exact .inr ⟨q - 1, by omega, by go_num, ⟨by have := HZ.out; rw [fix_low HY.out h7] at this; rw [Nat.sub_add_cancel hq0]; exact this⟩⟩
                    case measure => simp [intOf] <;> omega
                  · by_cases h8 : y = 44
                    · subst h8
                      have hfq := HFr.out q hql
                      go_wp2
                      go_roundw
                      case rel => exact ⟨k + 1, _, _, o1.set q 32, by omega, ⟨fun _ => by rw [List.length_set]; exact HL.out⟩, by rw [List.length_set], by go_num, ⟨HD1.out.store hql (by omega) (by omega) 32⟩, ⟨Lib.below_setCells g (HD1.out.base) [.int .u8 32] q HB1.out⟩, ⟨by have := HF1.out; rw [← HZ.out, fix_comma HY.out rfl] at this; exact this⟩⟩
                      case measure => simp [intOf]; omega
                    · have h8' : (y == 44) = false := by simpa using h8
                      go_wp2
                      go_roundw
                      case rel => exact ⟨k + 1, _, _, o1, by omega, ⟨fun _ => HL.out⟩, rfl, by go_num, ⟨HD1.out.from' (by omega)⟩, HB1, ⟨by have := HF1.out; rw [← HZ.out, fix_other HY.out h7 h8] at this; exact this⟩⟩
                      case measure => simp [intOf]; omega
          · have h3' : (x == 125) = false := by simpa using h3
            by_cases h4 : x = 93
            · subst h4
              go_wp2_with (at_builtin; refine appk rfl _ _ rfl rfl HD HB HX hlt hkk (Nat.le_refl _) hm rfl ?_; intro A1 c1 w1 o1 HO HD1 HB1 hc1; have ho2 := one_le HO.out; have ho3 := one_more' HO.out hkk.out hlt hm; clear HD HB hc)
              as_aux_lemma =>
                have HG := HF.out
                rw [sp_fix HX.out hlt (by decide), ← HO.out, hkk.out] at HG
                have HF1 := Aside0.mk HG
                have HL := Aside0.mk (len1 HO.out hkk.out)
                obtain ⟨g, rfl, hg, hlc, hcell, hfr⟩ := HD1.out.cell (by omega)
                have HC := Aside0.mk hcell
                have HFr := Aside0.mk hfr
                clear HG HO HF hkk HX hcell hfr hg hlc hc1
                go_loop [7] (fun j => (j = .int .i64 (-1) ∧ Aside0 (o1 = fixF k o1)) ∨ ∃ q : Nat, q < k ∧ j = .int .i64 q ∧ Aside0 (fixF (q + 1) o1 = fixF k o1)) (fun j => (intOf j + 1).toNat)
                case atStart =>
                  rcases Nat.eq_zero_or_pos k with hk0 | hk0
                  · refine .inl ⟨by have := HL.out; go_num, ⟨by rw [hk0]; rfl⟩⟩
                  · refine .inr ⟨k - 1, by omega, by have := HL.out; go_num, ⟨by rw [Nat.sub_add_cancel hk0]⟩⟩
                case round =>
                  rcases hrel with ⟨rfl, HZ⟩ | ⟨q, hq, rfl, HZ⟩
                  · go_wp2
                    go_roundw
                    case rel => exact ⟨k + 1, _, _, o1, by omega, ⟨fun _ => HL.out⟩, rfl, by go_num, ⟨HD1.out.from' (by omega)⟩, HB1, ⟨by have := HF1.out; rw [← HZ.out] at this; exact this⟩⟩
                    case measure => simp [intOf]; omega
                  · obtain ⟨y, hy⟩ : ∃ y, y = o1.getD q 0 := ⟨_, rfl⟩
                    have HY := Aside0.mk hy
                    have hql : q < o1.length := by have := HL.out; omega
                    have hcq : w1.cell? ⟨g, q, none⟩ = some (.int .u8 y) := by rw [HC.out q hql, hy]
                    clear hy
                    by_cases h7 : y ≤ 32
                    · go_wp2
                      go_round
                      case rel =>
                        rcases Nat.eq_zero_or_pos q with hq0 | hq0
                        · exact .inl ⟨by go_num, ⟨by have := HZ.out; rw [fix_low HY.out h7, hq0] at this; exact this⟩⟩
                        · exact .inr ⟨q - 1, by omega, by go_num, ⟨by have := HZ.out; rw [fix_low HY.out h7] at this; rw [Nat.sub_add_cancel hq0]; exact this⟩⟩
                      case measure => simp [intOf] <;> omega
                    · by_cases h8 : y = 44
                      · subst h8
                        have hfq := HFr.out q hql
                        go_wp2
                        go_roundw
                        case rel => exact ⟨k + 1, _, _, o1.set q 32, by omega, ⟨fun _ => by rw [List.length_set]; exact HL.out⟩, by rw [List.length_set], by go_num, ⟨HD1.out.store hql (by omega) (by omega) 32⟩, ⟨Lib.below_setCells g (HD1.out.base) [.int .u8 32] q HB1.out⟩, ⟨by have := HF1.out; rw [← HZ.out, fix_comma HY.out rfl] at this; exact this⟩⟩
                        case measure => simp [intOf]; omega
                      · have h8' : (y == 44) = false := by simpa using h8
                        go_wp2
                        go_roundw
                        case rel => exact ⟨k + 1, _, _, o1, by omega, ⟨fun _ => HL.out⟩, rfl, by go_num, ⟨HD1.out.from' (by omega)⟩, HB1, ⟨by have := HF1.out; rw [← HZ.out, fix_other HY.out h7 h8] at this; exact this⟩⟩
                        case measure => simp [intOf]; omega
            · have h4' : (x == 93) = false := by simpa using h4
              go_wp2_with (at_builtin; refine appk rfl _ _ rfl rfl HD HB HX hlt hkk (Nat.le_refl _) hm rfl ?_; intro A1 c1 w1 o1 HO HD1 HB1 hc1; clear HD HB hc)
              go_roundw
              case rel => exact ⟨k + 1, _, _, _, by omega, ⟨fun _ => len1 HO.out hkk.out⟩, rfl, by go_num, ⟨HD1.out.from' (by omega)⟩, HB1, ⟨by have := HF.out; rw [sp_plain HX.out hlt (.inl h1) h2 h3 h4, ← HO.out] at this; exact this⟩⟩
              case measure => simp [intOf]; omega
    · have hr := HF.out
      rw [specF_end hlt] at hr
      go_wp2
      go_ret
      unfold Made
      subst hr
      exact ⟨A, c, rfl, HD.out.1, HB.out⟩
end Go.Proofs.Ytklllibhgalnfab.G
