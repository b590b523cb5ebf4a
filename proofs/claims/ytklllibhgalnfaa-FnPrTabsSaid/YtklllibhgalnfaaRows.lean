/-
  No cell of these rows narrows 'for every input' (looked for: loops, veiled, ifaces, maps, wideKeys, modest, calm, conditions, laid).
  DERIVED. THE GIVEN ROWS OF THIS SEAT. 5 by the template 'for every input the law returns true; each argument reads behind the call as it read before'; 0 by the template 'total and deterministic' (their statements: YtklllibhgalnfaaTotals.lean).
  GIVEN WITH THE SEED: the statements are not yours to turn. If you find one false, say at which input.
  Laid BY PROGRAM, IN A SANDBOX (cutbox-rows.mjs): the forced cells as the released guide's own fill.sh prints them over the translation 9d06ed2a1cc79c6d… (all of the seat's roots in one cut). By AI agents, Wed Nov 11 2026. No macro, syntax, notation, axiom, sorry.
-/
import Derived.Test.YtklllibhgalnfaaChecked
import GoSem.Claim
import GoSem.ClaimJoined
import GoSem.ClaimMapViews
import Derived.JoinedTies
import Derived.KernelRfl
namespace Go.Proofs.Ytklllibhgalnfaa
/- THE CELL 'sum', in the pinned program and in every row, IS THE sha256 OF THE DUMP (.gsa) THAT YtklllibhgalnfaaProg.lean LOADS. Nothing in Lean hashes anything: it is a label: what it is worth is what the hold of that sum in a sandbox is worth. -/
noncomputable def Try.pinned : Pinned := { name := "ytklllibhgalnfaa", sum := "9d06ed2a1cc79c6dbb6e5209f69b65a7e12bdd02d8c4236abfd98127876577c8", checked := Try.checked }
namespace Rows
def none {H : Type} : Left H := { results := [], args := [] }

/-- 'laws.FnPrTabs': WHATEVER THE INPUT: true; the input reads as it did. -/
def fnPrTabsSpec : ChangeSpec := { name := "fnPrTabs", fn := fun _ => fun
  | [d1, d2, d3] => { results := [.lit (.bool true)], args := [d1, d2, d3] }
  | _ => none }
def fnPrTabsRow : OpenClaim := { program := "ytklllibhgalnfaa", sum := "9d06ed2a1cc79c6dbb6e5209f69b65a7e12bdd02d8c4236abfd98127876577c8", func := "pub-tetrapla/laws.FnPrTabs", spec := "fnPrTabs", apart := false }
def FnPrTabsSaid : Prop := fnPrTabsRow.holds Try.pinned (OpenSpec.ofChange fnPrTabsSpec)

/-- ITS FALSE NEIGHBOUR: 'it returns false'. Refute it at one input. -/
def fnPrTabsWrong : ChangeSpec := { name := "fnPrTabs", fn := fun _ => fun
  | [d1, d2, d3] => { results := [.lit (.bool false)], args := [d1, d2, d3] }
  | _ => none }
def FnPrTabsWrongFalsely : Prop := fnPrTabsRow.holds Try.pinned (OpenSpec.ofChange fnPrTabsWrong)

/-- 'laws.FnGjDigits': WHATEVER THE INPUT: true; the input reads as it did. -/
def fnGjDigitsSpec : ChangeSpec := { name := "fnGjDigits", fn := fun _ => fun
  | [d] => { results := [.lit (.bool true)], args := [d] }
  | _ => none }
def fnGjDigitsRow : OpenClaim := { program := "ytklllibhgalnfaa", sum := "9d06ed2a1cc79c6dbb6e5209f69b65a7e12bdd02d8c4236abfd98127876577c8", func := "pub-tetrapla/laws.FnGjDigits", spec := "fnGjDigits", apart := false }
def FnGjDigitsSaid : Prop := fnGjDigitsRow.holds Try.pinned (OpenSpec.ofChange fnGjDigitsSpec)

/-- ITS FALSE NEIGHBOUR: 'it returns false'. Refute it at one input. -/
def fnGjDigitsWrong : ChangeSpec := { name := "fnGjDigits", fn := fun _ => fun
  | [d] => { results := [.lit (.bool false)], args := [d] }
  | _ => none }
def FnGjDigitsWrongFalsely : Prop := fnGjDigitsRow.holds Try.pinned (OpenSpec.ofChange fnGjDigitsWrong)

/-- 'laws.FnFjRawNumber': WHATEVER THE INPUT: true; the input reads as it did. -/
def fnFjRawNumberSpec : ChangeSpec := { name := "fnFjRawNumber", fn := fun _ => fun
  | [d] => { results := [.lit (.bool true)], args := [d] }
  | _ => none }
def fnFjRawNumberRow : OpenClaim := { program := "ytklllibhgalnfaa", sum := "9d06ed2a1cc79c6dbb6e5209f69b65a7e12bdd02d8c4236abfd98127876577c8", func := "pub-tetrapla/laws.FnFjRawNumber", spec := "fnFjRawNumber", apart := false }
def FnFjRawNumberSaid : Prop := fnFjRawNumberRow.holds Try.pinned (OpenSpec.ofChange fnFjRawNumberSpec)

/-- ITS FALSE NEIGHBOUR: 'it returns false'. Refute it at one input. -/
def fnFjRawNumberWrong : ChangeSpec := { name := "fnFjRawNumber", fn := fun _ => fun
  | [d] => { results := [.lit (.bool false)], args := [d] }
  | _ => none }
def FnFjRawNumberWrongFalsely : Prop := fnFjRawNumberRow.holds Try.pinned (OpenSpec.ofChange fnFjRawNumberWrong)

/-- 'laws.FnGjSquashTwice': WHATEVER THE INPUT: true; the input reads as it did. -/
def fnGjSquashTwiceSpec : ChangeSpec := { name := "fnGjSquashTwice", fn := fun _ => fun
  | [d] => { results := [.lit (.bool true)], args := [d] }
  | _ => none }
def fnGjSquashTwiceRow : OpenClaim := { program := "ytklllibhgalnfaa", sum := "9d06ed2a1cc79c6dbb6e5209f69b65a7e12bdd02d8c4236abfd98127876577c8", func := "pub-tetrapla/laws.FnGjSquashTwice", spec := "fnGjSquashTwice", recurses := true, apart := false }
def FnGjSquashTwiceSaid : Prop := fnGjSquashTwiceRow.holds Try.pinned (OpenSpec.ofChange fnGjSquashTwiceSpec)

/-- ITS FALSE NEIGHBOUR: 'it returns false'. Refute it at one input. -/
def fnGjSquashTwiceWrong : ChangeSpec := { name := "fnGjSquashTwice", fn := fun _ => fun
  | [d] => { results := [.lit (.bool false)], args := [d] }
  | _ => none }
def FnGjSquashTwiceWrongFalsely : Prop := fnGjSquashTwiceRow.holds Try.pinned (OpenSpec.ofChange fnGjSquashTwiceWrong)

/-- 'laws.FnSjPathWild': WHATEVER THE INPUT: true; the input reads as it did. -/
def fnSjPathWildSpec : ChangeSpec := { name := "fnSjPathWild", fn := fun _ => fun
  | [d1, d2, d3] => { results := [.lit (.bool true)], args := [d1, d2, d3] }
  | _ => none }
def fnSjPathWildRow : OpenClaim := { program := "ytklllibhgalnfaa", sum := "9d06ed2a1cc79c6dbb6e5209f69b65a7e12bdd02d8c4236abfd98127876577c8", func := "pub-tetrapla/laws.FnSjPathWild", spec := "fnSjPathWild", apart := false }
def FnSjPathWildSaid : Prop := fnSjPathWildRow.holds Try.pinned (OpenSpec.ofChange fnSjPathWildSpec)

/-- ITS FALSE NEIGHBOUR: 'it returns false'. Refute it at one input. -/
def fnSjPathWildWrong : ChangeSpec := { name := "fnSjPathWild", fn := fun _ => fun
  | [d1, d2, d3] => { results := [.lit (.bool false)], args := [d1, d2, d3] }
  | _ => none }
def FnSjPathWildWrongFalsely : Prop := fnSjPathWildRow.holds Try.pinned (OpenSpec.ofChange fnSjPathWildWrong)

/- THE SECOND FORM. 'bulk': how many values and letters a reading holds, each counted each time it is reached (what is shared counts as often as it is met; a slice's spare places count too). A statement '..UptoSaid' is the law's where the arguments, and the package variables that the reading takes, are together of bulk at most 1048576: NARROWER than '..Said'. Prove '..Said' where nothing that the law and all that it calls make is longer than what came in: it says more and counts as full. Else prove '..UptoSaid'. A law counts once. -/
mutual
def uptoBulk {H : Type} : DataW H → Nat
  | .lit (.string bytes) => bytes.length + 1
  | .lit _ => 1
  | .nil => 1
  | .ptr d => uptoBulk d + 1
  | .slice elems spare => uptoBulkAll elems + uptoBulkAll spare + 1
  | .agg parts => uptoBulkAll parts + 1
  | .iface _ d => uptoBulk d + 1
  | .map entries => uptoBulkEntries entries + 1
  | .held _ => 1
def uptoBulkAll {H : Type} : List (DataW H) → Nat
  | [] => 0
  | d :: r => uptoBulk d + uptoBulkAll r
def uptoBulkEntries {H : Type} : List (Lit × DataW H) → Nat
  | [] => 0
  | x :: r => uptoBulkEntry x + uptoBulkEntries r
def uptoBulkEntry {H : Type} : Lit × DataW H → Nat
  | (.string bytes, d) => bytes.length + uptoBulk d + 1
  | (_, d) => uptoBulk d + 1
 end
def uptoSmall : (H : Type) → List (DataW H) → Bool := fun _ ds => decide (uptoBulkAll ds ≤ 1048576)
def OpenSpec.upto (s : _root_.Go.ChangeSpec) : _root_.Go.OpenSpec := { _root_.Go.OpenSpec.ofChange s with cond := some uptoSmall }

/-- 'laws.FnPrTabs', WHERE WHAT IT READS IS OF BULK AT MOST 1048576: true; the input reads as it did. -/
def fnPrTabsUptoRow : OpenClaim := { program := "ytklllibhgalnfaa", sum := "9d06ed2a1cc79c6dbb6e5209f69b65a7e12bdd02d8c4236abfd98127876577c8", func := "pub-tetrapla/laws.FnPrTabs", spec := "fnPrTabs", apart := false, narrowed := true }
def FnPrTabsUptoSaid : Prop := fnPrTabsUptoRow.holds Try.pinned (OpenSpec.upto fnPrTabsSpec)

/-- 'laws.FnGjDigits', WHERE WHAT IT READS IS OF BULK AT MOST 1048576: true; the input reads as it did. -/
def fnGjDigitsUptoRow : OpenClaim := { program := "ytklllibhgalnfaa", sum := "9d06ed2a1cc79c6dbb6e5209f69b65a7e12bdd02d8c4236abfd98127876577c8", func := "pub-tetrapla/laws.FnGjDigits", spec := "fnGjDigits", apart := false, narrowed := true }
def FnGjDigitsUptoSaid : Prop := fnGjDigitsUptoRow.holds Try.pinned (OpenSpec.upto fnGjDigitsSpec)

/-- 'laws.FnFjRawNumber', WHERE WHAT IT READS IS OF BULK AT MOST 1048576: true; the input reads as it did. -/
def fnFjRawNumberUptoRow : OpenClaim := { program := "ytklllibhgalnfaa", sum := "9d06ed2a1cc79c6dbb6e5209f69b65a7e12bdd02d8c4236abfd98127876577c8", func := "pub-tetrapla/laws.FnFjRawNumber", spec := "fnFjRawNumber", apart := false, narrowed := true }
def FnFjRawNumberUptoSaid : Prop := fnFjRawNumberUptoRow.holds Try.pinned (OpenSpec.upto fnFjRawNumberSpec)

/-- 'laws.FnGjSquashTwice', WHERE WHAT IT READS IS OF BULK AT MOST 1048576: true; the input reads as it did. -/
def fnGjSquashTwiceUptoRow : OpenClaim := { program := "ytklllibhgalnfaa", sum := "9d06ed2a1cc79c6dbb6e5209f69b65a7e12bdd02d8c4236abfd98127876577c8", func := "pub-tetrapla/laws.FnGjSquashTwice", spec := "fnGjSquashTwice", recurses := true, apart := false, narrowed := true }
def FnGjSquashTwiceUptoSaid : Prop := fnGjSquashTwiceUptoRow.holds Try.pinned (OpenSpec.upto fnGjSquashTwiceSpec)

/-- 'laws.FnSjPathWild', WHERE WHAT IT READS IS OF BULK AT MOST 1048576: true; the input reads as it did. -/
def fnSjPathWildUptoRow : OpenClaim := { program := "ytklllibhgalnfaa", sum := "9d06ed2a1cc79c6dbb6e5209f69b65a7e12bdd02d8c4236abfd98127876577c8", func := "pub-tetrapla/laws.FnSjPathWild", spec := "fnSjPathWild", apart := false, narrowed := true }
def FnSjPathWildUptoSaid : Prop := fnSjPathWildUptoRow.holds Try.pinned (OpenSpec.upto fnSjPathWildSpec)

end Rows
end Go.Proofs.Ytklllibhgalnfaa
