/- '[]byte(s)' as one step of the walk: a new row that reads as the text's bytes. -/
import Derived.Test.YtklllibhgalnfaaDoorWWords
import Derived.Test.YtklllibhgalnfaaDoorWMore
namespace Go.Proofs.YtklllibhgalnfaaDoor.G
set_option linter.unusedVariables false
set_option linter.unusedSimpArgs false
open Go.RowKit Go.Proofs.YtklllibhgalnfaaDoorW.PrintWords Go.Proofs.YtklllibhgalnfaaDoorW.PrintLast Go.Proofs.YtklllibhgalnfaaDoorW.PrintMore
variable {P : Program} {ops : Array Oper} {rest : List Oper} {o : Oper} {a : Act} {Q : Exit → Act → World → Prop}
theorem conv_event {W : World} (hgd : o.guard = none) {N : Tmp} (_hd : o.dst = some N) (src dst e : TypeId) (x : Operand) (ho : o.op = .convert src dst x) (s : ByteArray) (hx : a.eval x = .string s)
    {u : TypeDesc} (hs : P.underlying src = some u) (hd : P.underlying dst = some (.slice e)) (he : P.underlying e = some (.int .u8)) (hm : s.size ≤ 9223372036854775807)
    (h : ∀ (A : Option Addr) (c : Nat) (w1 : World), Kd.C (Kd.int .u8) w1 A (bytesOf s).length (bytesOf s) → (bytesOf s).length ≤ c → Below W.heap.size W w1 → wpList P ops Q rest (a.put o.dst (.slice A (bytesOf s).length c)) w1) :
    wpList P ops Q (o :: rest) a W := by
  have hr := print_bytes (P := P) src dst e hs hd he s W
  refine Kd.event_run (w1 := Lib.bytesWorld W e s) (v := .slice (some ⟨W.heap.size, 0, none⟩) s.size (grownCap W s.size 0 e)) hgd ?_ ?_
  · simp [execOp, ho, hx, hr]
  · have h1 := h (some ⟨W.heap.size, 0, none⟩) (grownCap W s.size 0 e) (Lib.bytesWorld W e s)
    rw [bytesOf_length] at h1
    refine h1 (Kd.C_of_reads (d := (0 : Int)) (h1 := fun _ => rfl) ?_) ?_ (bytes_below (Below.refl _ _) (Nat.le_refl _) e s)
    · exact bytes_reads W e s hm
    · exact Nat.le_trans (by omega) (grownCap_ge W s.size 0 e)
end Go.Proofs.YtklllibhgalnfaaDoor.G
