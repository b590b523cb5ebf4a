/-
  DERIVED. GIVEN WITH THE SEED: THE CARDS: each row of YtiecdhkmlpceoaaDoorRows.lean that lists a variable, with what it lists TIED to the program's text (the seventh form; the later family's looks); each row that meets fmt, with fmt's text TOLD by the authors' own Lean function (tested against real Go, not proved from fmt's source: count such statements apart). THE CARD IS WHAT COUNTS. Prove the row's statement (the work); the ties are given (YtiecdhkmlpceoaaDoorTie.lean); close each card by the builder's one call (the guide's Derived/Test/ToyasCard.lean, 'card_holds'). Laid BY PROGRAM, IN A SANDBOX (cutbox-door.mjs). By AI agents, Wed Nov 11 2026. No macro, syntax, notation, axiom, sorry.
-/
import Derived.Test.YtiecdhkmlpceoaaDoorRows
import GoSem.ClaimSeven
namespace Go.Proofs.YtiecdhkmlpceoaaDoor
namespace Rows

/-- THE TIED CARD OF 'laws.FnJpBlockEnd'. -/
def fnJpBlockEndCard : Claim7 := { stood := { row := fnJpBlockEndRow, standIns := [], harness := (true, "0510b7cc6bf346a45046d9189d8605a1957a7349475b1015bc5e67b50c08173d"), looks := true }, kinds := [], alts := [], laidByText := true, laidKinds := [.data], laidTests := true, laidLooks := .later }
def FnJpBlockEndCardSaid : Prop := Claim7.holds Tryd.pinned (.plain (OpenSpec.ofChange fnJpBlockEndSpec)) fnJpBlockEndCard

/-- THE TIED CARD OF 'laws.FnMtJoin'. -/
def fnMtJoinCard : Claim7 := { stood := { row := fnMtJoinRow, standIns := [], harness := (true, "0510b7cc6bf346a45046d9189d8605a1957a7349475b1015bc5e67b50c08173d"), looks := true }, kinds := [], alts := [], laidByText := true, laidKinds := [.data, .pinned], laidTests := true, laidLooks := .later }
def FnMtJoinCardSaid : Prop := Claim7.holds Tryd.pinned (.plain (OpenSpec.ofChange fnMtJoinSpec)) fnMtJoinCard

/-- THE TIED CARD OF 'laws.FnMtMatch'. -/
def fnMtMatchCard : Claim7 := { stood := { row := fnMtMatchRow, standIns := [], harness := (true, "0510b7cc6bf346a45046d9189d8605a1957a7349475b1015bc5e67b50c08173d"), looks := true }, kinds := [], alts := [], laidByText := true, laidKinds := [.data, .pinned], laidTests := true, laidLooks := .later }
def FnMtMatchCardSaid : Prop := Claim7.holds Tryd.pinned (.plain (OpenSpec.ofChange fnMtMatchSpec)) fnMtMatchCard

/-- THE TIED CARD OF 'laws.FnGjValidJoin'. -/
def fnGjValidJoinCard : Claim7 := { stood := { row := fnGjValidJoinRow, standIns := [], harness := (true, "0510b7cc6bf346a45046d9189d8605a1957a7349475b1015bc5e67b50c08173d"), looks := true }, kinds := [], alts := [], laidByText := true, laidKinds := [.data, .data, .pinned], laidTests := true, laidLooks := .later }
def FnGjValidJoinCardSaid : Prop := Claim7.holds Tryd.pinned (.plain (OpenSpec.ofChange fnGjValidJoinSpec)) fnGjValidJoinCard

/-- THE TIED CARD OF 'laws.FnFfDigits'. -/
def fnFfDigitsCard : Claim7 := { stood := { row := fnFfDigitsRow, standIns := [], harness := (true, "0510b7cc6bf346a45046d9189d8605a1957a7349475b1015bc5e67b50c08173d"), looks := true }, kinds := [], alts := [], laidByText := true, laidKinds := [.data, .data, .data, .sentinel, .sentinel], laidTests := true, laidLooks := .later }
def FnFfDigitsCardSaid : Prop := Claim7.holds Tryd.pinned (.plain (OpenSpec.ofChange fnFfDigitsSpec)) fnFfDigitsCard

/-- THE TIED CARD OF 'laws.FnFjCheckWhole'. -/
def fnFjCheckWholeCard : Claim7 := { stood := { row := fnFjCheckWholeRow, standIns := [], harness := (true, "0510b7cc6bf346a45046d9189d8605a1957a7349475b1015bc5e67b50c08173d"), looks := true }, kinds := [], alts := [], laidByText := true, laidKinds := [.data, .data, .data, .sentinel, .sentinel], laidTests := true, laidLooks := .later }
def FnFjCheckWholeCardSaid : Prop := Claim7.holds Tryd.pinned (.plain (OpenSpec.ofChange fnFjCheckWholeSpec)) fnFjCheckWholeCard

/-- THE SECOND FORM's CARD OF 'laws.FnJpBlockEnd'. -/
def fnJpBlockEndUptoCard : Claim7 := { stood := { row := fnJpBlockEndUptoRow, standIns := [], harness := (true, "0510b7cc6bf346a45046d9189d8605a1957a7349475b1015bc5e67b50c08173d"), looks := true }, kinds := [], alts := [], laidByText := true, laidKinds := [.data], laidTests := true, laidLooks := .later }
def FnJpBlockEndUptoCardSaid : Prop := Claim7.holds Tryd.pinned (.plain (OpenSpec.upto fnJpBlockEndSpec)) fnJpBlockEndUptoCard

/-- THE SECOND FORM's CARD OF 'laws.FnMtJoin'. -/
def fnMtJoinUptoCard : Claim7 := { stood := { row := fnMtJoinUptoRow, standIns := [], harness := (true, "0510b7cc6bf346a45046d9189d8605a1957a7349475b1015bc5e67b50c08173d"), looks := true }, kinds := [], alts := [], laidByText := true, laidKinds := [.data, .pinned], laidTests := true, laidLooks := .later }
def FnMtJoinUptoCardSaid : Prop := Claim7.holds Tryd.pinned (.plain (OpenSpec.upto fnMtJoinSpec)) fnMtJoinUptoCard

/-- THE SECOND FORM's CARD OF 'laws.FnMtMatch'. -/
def fnMtMatchUptoCard : Claim7 := { stood := { row := fnMtMatchUptoRow, standIns := [], harness := (true, "0510b7cc6bf346a45046d9189d8605a1957a7349475b1015bc5e67b50c08173d"), looks := true }, kinds := [], alts := [], laidByText := true, laidKinds := [.data, .pinned], laidTests := true, laidLooks := .later }
def FnMtMatchUptoCardSaid : Prop := Claim7.holds Tryd.pinned (.plain (OpenSpec.upto fnMtMatchSpec)) fnMtMatchUptoCard

/-- THE SECOND FORM's CARD OF 'laws.FnGjValidJoin'. -/
def fnGjValidJoinUptoCard : Claim7 := { stood := { row := fnGjValidJoinUptoRow, standIns := [], harness := (true, "0510b7cc6bf346a45046d9189d8605a1957a7349475b1015bc5e67b50c08173d"), looks := true }, kinds := [], alts := [], laidByText := true, laidKinds := [.data, .data, .pinned], laidTests := true, laidLooks := .later }
def FnGjValidJoinUptoCardSaid : Prop := Claim7.holds Tryd.pinned (.plain (OpenSpec.upto fnGjValidJoinSpec)) fnGjValidJoinUptoCard

/-- THE SECOND FORM's CARD OF 'laws.FnFfDigits'. -/
def fnFfDigitsUptoCard : Claim7 := { stood := { row := fnFfDigitsUptoRow, standIns := [], harness := (true, "0510b7cc6bf346a45046d9189d8605a1957a7349475b1015bc5e67b50c08173d"), looks := true }, kinds := [], alts := [], laidByText := true, laidKinds := [.data, .data, .data, .sentinel, .sentinel], laidTests := true, laidLooks := .later }
def FnFfDigitsUptoCardSaid : Prop := Claim7.holds Tryd.pinned (.plain (OpenSpec.upto fnFfDigitsSpec)) fnFfDigitsUptoCard

/-- THE SECOND FORM's CARD OF 'laws.FnFjCheckWhole'. -/
def fnFjCheckWholeUptoCard : Claim7 := { stood := { row := fnFjCheckWholeUptoRow, standIns := [], harness := (true, "0510b7cc6bf346a45046d9189d8605a1957a7349475b1015bc5e67b50c08173d"), looks := true }, kinds := [], alts := [], laidByText := true, laidKinds := [.data, .data, .data, .sentinel, .sentinel], laidTests := true, laidLooks := .later }
def FnFjCheckWholeUptoCardSaid : Prop := Claim7.holds Tryd.pinned (.plain (OpenSpec.upto fnFjCheckWholeSpec)) fnFjCheckWholeUptoCard
end Rows
end Go.Proofs.YtiecdhkmlpceoaaDoor
