/-
  DERIVED. GIVEN WITH THE SEED: THE CARDS: each row of YtklllibhgalnfaaDoorRows.lean that lists a variable, with what it lists TIED to the program's text (the seventh form; the later family's looks); each row that meets fmt, with fmt's text TOLD by the authors' own Lean function (tested against real Go, not proved from fmt's source: count such statements apart). THE CARD IS WHAT COUNTS. Prove the row's statement (the work); the ties are given (YtklllibhgalnfaaDoorTie.lean); close each card by the builder's one call (the guide's Derived/Test/ToyasCard.lean, 'card_holds'). Laid BY PROGRAM, IN A SANDBOX (cutbox-door.mjs). By AI agents, Wed Nov 11 2026. No macro, syntax, notation, axiom, sorry.
-/
import Derived.Test.YtklllibhgalnfaaDoorRows
import GoSem.ClaimSeven
namespace Go.Proofs.YtklllibhgalnfaaDoor
namespace Rows

/-- THE TIED CARD OF 'laws.FnJpParseIntNext'. -/
def fnJpParseIntNextCard : Claim7 := { stood := { row := fnJpParseIntNextRow, standIns := [], harness := (true, "3fe7b3110447f585d61b1a0b6db2ba5f6a328dbfbb9101d48a2e6cf163c97540"), looks := false }, kinds := [], alts := [], laidByText := true, laidKinds := [.sentinel, .sentinel], laidTests := true, laidLooks := .later }
def FnJpParseIntNextCardSaid : Prop := Claim7.holds Tryd.pinned (.plain (OpenSpec.ofChange fnJpParseIntNextSpec)) fnJpParseIntNextCard

/-- THE SECOND FORM's CARD OF 'laws.FnJpParseIntNext'. -/
def fnJpParseIntNextUptoCard : Claim7 := { stood := { row := fnJpParseIntNextUptoRow, standIns := [], harness := (true, "3fe7b3110447f585d61b1a0b6db2ba5f6a328dbfbb9101d48a2e6cf163c97540"), looks := false }, kinds := [], alts := [], laidByText := true, laidKinds := [.sentinel, .sentinel], laidTests := true, laidLooks := .later }
def FnJpParseIntNextUptoCardSaid : Prop := Claim7.holds Tryd.pinned (.plain (OpenSpec.upto fnJpParseIntNextSpec)) fnJpParseIntNextUptoCard
end Rows
end Go.Proofs.YtklllibhgalnfaaDoor
