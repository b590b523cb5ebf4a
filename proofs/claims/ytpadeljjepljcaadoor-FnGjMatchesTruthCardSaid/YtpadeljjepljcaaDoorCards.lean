/-
  DERIVED. GIVEN WITH THE SEED: THE CARDS: each row of YtpadeljjepljcaaDoorRows.lean that lists a variable, with what it lists TIED to the program's text (the seventh form; the later family's looks); each row that meets fmt, with fmt's text TOLD by the authors' own Lean function (tested against real Go, not proved from fmt's source: count such statements apart). THE CARD IS WHAT COUNTS. Prove the row's statement (the work); the ties are given (YtpadeljjepljcaaDoorTie.lean); close each card by the builder's one call (the guide's Derived/Test/ToyasCard.lean, 'card_holds'). Laid BY PROGRAM, IN A SANDBOX (cutbox-door.mjs). By AI agents, Wed Nov 11 2026. No macro, syntax, notation, axiom, sorry.
-/
import Derived.Test.YtpadeljjepljcaaDoorRows
import GoSem.ClaimSeven
namespace Go.Proofs.YtpadeljjepljcaaDoor
namespace Rows

/-- THE TIED CARD OF 'laws.FnGjMatchesTruth'. -/
def fnGjMatchesTruthCard : Claim7 := { stood := { row := fnGjMatchesTruthRow, standIns := [], harness := (true, "8528e5961be855d439f5fd0bbe7da97a2fd107394fb65944209d6af3705a7e13"), looks := true }, kinds := [], alts := [], laidByText := true, laidKinds := [.data, .data, .widerDeep, .widerDeep, .data, .data, .data, .data, .data, .data, .sentinel, .sentinel, .pinned, .pinned, .pinned], laidTests := true, laidLooks := .later }
def FnGjMatchesTruthCardSaid : Prop := Claim7.holds Tryd.pinned (.plain (OpenSpec.ofChange fnGjMatchesTruthSpec)) fnGjMatchesTruthCard

/-- THE SECOND FORM's CARD OF 'laws.FnGjMatchesTruth'. -/
def fnGjMatchesTruthUptoCard : Claim7 := { stood := { row := fnGjMatchesTruthUptoRow, standIns := [], harness := (true, "8528e5961be855d439f5fd0bbe7da97a2fd107394fb65944209d6af3705a7e13"), looks := true }, kinds := [], alts := [], laidByText := true, laidKinds := [.data, .data, .widerDeep, .widerDeep, .data, .data, .data, .data, .data, .data, .sentinel, .sentinel, .pinned, .pinned, .pinned], laidTests := true, laidLooks := .later }
def FnGjMatchesTruthUptoCardSaid : Prop := Claim7.holds Tryd.pinned (.plain (OpenSpec.upto fnGjMatchesTruthSpec)) fnGjMatchesTruthUptoCard
end Rows
end Go.Proofs.YtpadeljjepljcaaDoor
