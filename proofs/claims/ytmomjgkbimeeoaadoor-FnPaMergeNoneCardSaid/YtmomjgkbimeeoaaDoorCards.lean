/-
  DERIVED. GIVEN WITH THE SEED: THE CARDS: each row of YtmomjgkbimeeoaaDoorRows.lean that lists a variable, with what it lists TIED to the program's text (the seventh form; the later family's looks); each row that meets fmt, with fmt's text TOLD by the authors' own Lean function (tested against real Go, not proved from fmt's source: count such statements apart). THE CARD IS WHAT COUNTS. Prove the row's statement (the work); the ties are given (YtmomjgkbimeeoaaDoorTie.lean); close each card by the builder's one call (the guide's Derived/Test/ToyasCard.lean, 'card_holds'). Laid BY PROGRAM, IN A SANDBOX (cutbox-door.mjs). By AI agents, Wed Nov 11 2026. No macro, syntax, notation, axiom, sorry.
-/
import Derived.Test.YtmomjgkbimeeoaaDoorRows
import GoSem.ClaimSeven
namespace Go.Proofs.YtmomjgkbimeeoaaDoor
namespace Rows

/-- THE TIED CARD OF 'laws.FnPaMergeNone'. -/
def fnPaMergeNoneCard : Claim7 := { stood := { row := fnPaMergeNoneRow, standIns := [], harness := (true, "18c50782a7e05e0b4eecaafedee2c8878f7975c80b0dc66c4daf163ff9587410"), looks := true }, kinds := [], alts := [], laidByText := true, laidKinds := [.sentinel, .sentinel, .sentinel], laidTests := true, laidLooks := .later }
def FnPaMergeNoneCardSaid : Prop := Claim7.holds Tryd.pinned (.plain (OpenSpec.ofChange fnPaMergeNoneSpec)) fnPaMergeNoneCard

/-- THE TIED CARD OF 'laws.FnPaDiffLeast'. -/
def fnPaDiffLeastCard : Claim7 := { stood := { row := fnPaDiffLeastRow, standIns := [], harness := (true, "18c50782a7e05e0b4eecaafedee2c8878f7975c80b0dc66c4daf163ff9587410"), looks := true }, kinds := [], alts := [], laidByText := true, laidKinds := [.sentinel], laidTests := true, laidLooks := .later }
def FnPaDiffLeastCardSaid : Prop := Claim7.holds Tryd.pinned (.plain (OpenSpec.ofChange fnPaDiffLeastSpec)) fnPaDiffLeastCard

/-- THE TIED CARD OF 'laws.FnPaNegativePut'. -/
def fnPaNegativePutCard : Claim7 := { stood := { row := fnPaNegativePutRow, standIns := [], harness := (true, "18c50782a7e05e0b4eecaafedee2c8878f7975c80b0dc66c4daf163ff9587410"), looks := true }, kinds := [], alts := [], laidByText := true, laidKinds := [.sentinel, .sentinel], laidTests := true, laidLooks := .later }
def FnPaNegativePutCardSaid : Prop := Claim7.holds Tryd.pinned (.plain (OpenSpec.ofChange fnPaNegativePutSpec)) fnPaNegativePutCard

/-- THE SECOND FORM's CARD OF 'laws.FnPaMergeNone'. -/
def fnPaMergeNoneUptoCard : Claim7 := { stood := { row := fnPaMergeNoneUptoRow, standIns := [], harness := (true, "18c50782a7e05e0b4eecaafedee2c8878f7975c80b0dc66c4daf163ff9587410"), looks := true }, kinds := [], alts := [], laidByText := true, laidKinds := [.sentinel, .sentinel, .sentinel], laidTests := true, laidLooks := .later }
def FnPaMergeNoneUptoCardSaid : Prop := Claim7.holds Tryd.pinned (.plain (OpenSpec.upto fnPaMergeNoneSpec)) fnPaMergeNoneUptoCard

/-- THE SECOND FORM's CARD OF 'laws.FnPaDiffLeast'. -/
def fnPaDiffLeastUptoCard : Claim7 := { stood := { row := fnPaDiffLeastUptoRow, standIns := [], harness := (true, "18c50782a7e05e0b4eecaafedee2c8878f7975c80b0dc66c4daf163ff9587410"), looks := true }, kinds := [], alts := [], laidByText := true, laidKinds := [.sentinel], laidTests := true, laidLooks := .later }
def FnPaDiffLeastUptoCardSaid : Prop := Claim7.holds Tryd.pinned (.plain (OpenSpec.upto fnPaDiffLeastSpec)) fnPaDiffLeastUptoCard

/-- THE SECOND FORM's CARD OF 'laws.FnPaNegativePut'. -/
def fnPaNegativePutUptoCard : Claim7 := { stood := { row := fnPaNegativePutUptoRow, standIns := [], harness := (true, "18c50782a7e05e0b4eecaafedee2c8878f7975c80b0dc66c4daf163ff9587410"), looks := true }, kinds := [], alts := [], laidByText := true, laidKinds := [.sentinel, .sentinel], laidTests := true, laidLooks := .later }
def FnPaNegativePutUptoCardSaid : Prop := Claim7.holds Tryd.pinned (.plain (OpenSpec.upto fnPaNegativePutSpec)) fnPaNegativePutUptoCard
end Rows
end Go.Proofs.YtmomjgkbimeeoaaDoor
