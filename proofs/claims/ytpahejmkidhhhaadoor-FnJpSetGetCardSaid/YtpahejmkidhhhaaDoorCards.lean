/-
  DERIVED. GIVEN WITH THE SEED: THE CARDS: each row of YtpahejmkidhhhaaDoorRows.lean that lists a variable, with what it lists TIED to the program's text (the seventh form; the later family's looks); each row that meets fmt, with fmt's text TOLD by the authors' own Lean function (tested against real Go, not proved from fmt's source: count such statements apart). THE CARD IS WHAT COUNTS. Prove the row's statement (the work); the ties are given (YtpahejmkidhhhaaDoorTie.lean); close each card by the builder's one call (the guide's Derived/Test/ToyasCard.lean, 'card_holds'). Laid BY PROGRAM, IN A SANDBOX (cutbox-door.mjs). By AI agents, Wed Nov 11 2026. No macro, syntax, notation, axiom, sorry.
-/
import Derived.Test.YtpahejmkidhhhaaDoorRows
import GoSem.ClaimSeven
namespace Go.Proofs.YtpahejmkidhhhaaDoor
namespace Rows

/-- THE TIED CARD OF 'laws.FnJpGetCut'. -/
def fnJpGetCutCard : Claim7 := { stood := { row := fnJpGetCutRow, standIns := [], harness := (true, "71a4b0aeaaeabdd81c85b1d8731e167f650fde7ada06ab2a14c6d53206feac3d"), looks := true }, kinds := [], alts := [], laidByText := true, laidKinds := [.data, .data, .data, .sentinel, .sentinel, .data, .data, .sentinel, .sentinel, .sentinel, .sentinel, .sentinel, .sentinel, .sentinel], laidTests := true, laidLooks := .later }
def FnJpGetCutCardSaid : Prop := Claim7.holds Tryd.pinned (.plain (OpenSpec.ofChange fnJpGetCutSpec)) fnJpGetCutCard

/-- THE TIED CARD OF 'laws.FnJpGetWhole'. -/
def fnJpGetWholeCard : Claim7 := { stood := { row := fnJpGetWholeRow, standIns := [], harness := (true, "71a4b0aeaaeabdd81c85b1d8731e167f650fde7ada06ab2a14c6d53206feac3d"), looks := true }, kinds := [], alts := [], laidByText := true, laidKinds := [.data, .data, .data, .sentinel, .sentinel, .data, .data, .sentinel, .sentinel, .sentinel, .sentinel, .sentinel, .sentinel, .sentinel], laidTests := true, laidLooks := .later }
def FnJpGetWholeCardSaid : Prop := Claim7.holds Tryd.pinned (.plain (OpenSpec.ofChange fnJpGetWholeSpec)) fnJpGetWholeCard

/-- THE TIED CARD OF 'laws.FnJrGetTold'. -/
def fnJrGetToldCard : Claim7 := { stood := { row := fnJrGetToldRow, standIns := [], harness := (true, "71a4b0aeaaeabdd81c85b1d8731e167f650fde7ada06ab2a14c6d53206feac3d"), looks := true }, kinds := [], alts := [], laidByText := true, laidKinds := [.data, .data, .data, .sentinel, .sentinel, .data, .data, .sentinel, .sentinel, .sentinel, .sentinel, .sentinel, .sentinel, .sentinel, .sentinel, .sentinel, .sentinel], laidTests := true, laidLooks := .later }
def FnJrGetToldCardSaid : Prop := Claim7.holds Tryd.pinned (.plain (OpenSpec.ofChange fnJrGetToldSpec)) fnJrGetToldCard

/-- THE TIED CARD OF 'laws.FnJpWalk'. -/
def fnJpWalkCard : Claim7 := { stood := { row := fnJpWalkRow, standIns := [], harness := (true, "71a4b0aeaaeabdd81c85b1d8731e167f650fde7ada06ab2a14c6d53206feac3d"), looks := true }, kinds := [], alts := [], laidByText := true, laidKinds := [.data, .data, .data, .sentinel, .sentinel, .data, .data, .sentinel, .sentinel, .sentinel, .sentinel, .sentinel, .sentinel, .sentinel, .sentinel], laidTests := true, laidLooks := .later }
def FnJpWalkCardSaid : Prop := Claim7.holds Tryd.pinned (.plain (OpenSpec.ofChange fnJpWalkSpec)) fnJpWalkCard

/-- THE TIED CARD OF 'laws.FnJpSetNone'. -/
def fnJpSetNoneCard : Claim7 := { stood := { row := fnJpSetNoneRow, standIns := [], harness := (true, "71a4b0aeaaeabdd81c85b1d8731e167f650fde7ada06ab2a14c6d53206feac3d"), looks := true }, kinds := [], alts := [], laidByText := true, laidKinds := [.data, .data, .data, .sentinel, .sentinel, .data, .data, .sentinel, .sentinel, .sentinel, .sentinel, .sentinel, .sentinel, .sentinel], laidTests := true, laidLooks := .later }
def FnJpSetNoneCardSaid : Prop := Claim7.holds Tryd.pinned (.plain (OpenSpec.ofChange fnJpSetNoneSpec)) fnJpSetNoneCard

/-- THE TIED CARD OF 'laws.FnJpSetGet'. -/
def fnJpSetGetCard : Claim7 := { stood := { row := fnJpSetGetRow, standIns := [], harness := (true, "71a4b0aeaaeabdd81c85b1d8731e167f650fde7ada06ab2a14c6d53206feac3d"), looks := true }, kinds := [], alts := [], laidByText := true, laidKinds := [.data, .data, .data, .sentinel, .sentinel, .data, .data, .sentinel, .sentinel, .sentinel, .sentinel, .sentinel, .sentinel, .sentinel], laidTests := true, laidLooks := .later }
def FnJpSetGetCardSaid : Prop := Claim7.holds Tryd.pinned (.plain (OpenSpec.ofChange fnJpSetGetSpec)) fnJpSetGetCard

/-- THE SECOND FORM's CARD OF 'laws.FnJpGetCut'. -/
def fnJpGetCutUptoCard : Claim7 := { stood := { row := fnJpGetCutUptoRow, standIns := [], harness := (true, "71a4b0aeaaeabdd81c85b1d8731e167f650fde7ada06ab2a14c6d53206feac3d"), looks := true }, kinds := [], alts := [], laidByText := true, laidKinds := [.data, .data, .data, .sentinel, .sentinel, .data, .data, .sentinel, .sentinel, .sentinel, .sentinel, .sentinel, .sentinel, .sentinel], laidTests := true, laidLooks := .later }
def FnJpGetCutUptoCardSaid : Prop := Claim7.holds Tryd.pinned (.plain (OpenSpec.upto fnJpGetCutSpec)) fnJpGetCutUptoCard

/-- THE SECOND FORM's CARD OF 'laws.FnJpGetWhole'. -/
def fnJpGetWholeUptoCard : Claim7 := { stood := { row := fnJpGetWholeUptoRow, standIns := [], harness := (true, "71a4b0aeaaeabdd81c85b1d8731e167f650fde7ada06ab2a14c6d53206feac3d"), looks := true }, kinds := [], alts := [], laidByText := true, laidKinds := [.data, .data, .data, .sentinel, .sentinel, .data, .data, .sentinel, .sentinel, .sentinel, .sentinel, .sentinel, .sentinel, .sentinel], laidTests := true, laidLooks := .later }
def FnJpGetWholeUptoCardSaid : Prop := Claim7.holds Tryd.pinned (.plain (OpenSpec.upto fnJpGetWholeSpec)) fnJpGetWholeUptoCard

/-- THE SECOND FORM's CARD OF 'laws.FnJrGetTold'. -/
def fnJrGetToldUptoCard : Claim7 := { stood := { row := fnJrGetToldUptoRow, standIns := [], harness := (true, "71a4b0aeaaeabdd81c85b1d8731e167f650fde7ada06ab2a14c6d53206feac3d"), looks := true }, kinds := [], alts := [], laidByText := true, laidKinds := [.data, .data, .data, .sentinel, .sentinel, .data, .data, .sentinel, .sentinel, .sentinel, .sentinel, .sentinel, .sentinel, .sentinel, .sentinel, .sentinel, .sentinel], laidTests := true, laidLooks := .later }
def FnJrGetToldUptoCardSaid : Prop := Claim7.holds Tryd.pinned (.plain (OpenSpec.upto fnJrGetToldSpec)) fnJrGetToldUptoCard

/-- THE SECOND FORM's CARD OF 'laws.FnJpWalk'. -/
def fnJpWalkUptoCard : Claim7 := { stood := { row := fnJpWalkUptoRow, standIns := [], harness := (true, "71a4b0aeaaeabdd81c85b1d8731e167f650fde7ada06ab2a14c6d53206feac3d"), looks := true }, kinds := [], alts := [], laidByText := true, laidKinds := [.data, .data, .data, .sentinel, .sentinel, .data, .data, .sentinel, .sentinel, .sentinel, .sentinel, .sentinel, .sentinel, .sentinel, .sentinel], laidTests := true, laidLooks := .later }
def FnJpWalkUptoCardSaid : Prop := Claim7.holds Tryd.pinned (.plain (OpenSpec.upto fnJpWalkSpec)) fnJpWalkUptoCard

/-- THE SECOND FORM's CARD OF 'laws.FnJpSetNone'. -/
def fnJpSetNoneUptoCard : Claim7 := { stood := { row := fnJpSetNoneUptoRow, standIns := [], harness := (true, "71a4b0aeaaeabdd81c85b1d8731e167f650fde7ada06ab2a14c6d53206feac3d"), looks := true }, kinds := [], alts := [], laidByText := true, laidKinds := [.data, .data, .data, .sentinel, .sentinel, .data, .data, .sentinel, .sentinel, .sentinel, .sentinel, .sentinel, .sentinel, .sentinel], laidTests := true, laidLooks := .later }
def FnJpSetNoneUptoCardSaid : Prop := Claim7.holds Tryd.pinned (.plain (OpenSpec.upto fnJpSetNoneSpec)) fnJpSetNoneUptoCard

/-- THE SECOND FORM's CARD OF 'laws.FnJpSetGet'. -/
def fnJpSetGetUptoCard : Claim7 := { stood := { row := fnJpSetGetUptoRow, standIns := [], harness := (true, "71a4b0aeaaeabdd81c85b1d8731e167f650fde7ada06ab2a14c6d53206feac3d"), looks := true }, kinds := [], alts := [], laidByText := true, laidKinds := [.data, .data, .data, .sentinel, .sentinel, .data, .data, .sentinel, .sentinel, .sentinel, .sentinel, .sentinel, .sentinel, .sentinel], laidTests := true, laidLooks := .later }
def FnJpSetGetUptoCardSaid : Prop := Claim7.holds Tryd.pinned (.plain (OpenSpec.upto fnJpSetGetSpec)) fnJpSetGetUptoCard
end Rows
end Go.Proofs.YtpahejmkidhhhaaDoor
