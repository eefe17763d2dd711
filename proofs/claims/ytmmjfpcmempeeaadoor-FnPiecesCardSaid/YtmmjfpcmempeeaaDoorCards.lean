/-
  DERIVED. GIVEN WITH THE SEED: THE CARDS: each row of YtmmjfpcmempeeaaDoorRows.lean that lists a variable, with what it lists TIED to the program's text (the seventh form; the later family's looks); each row that meets fmt, with fmt's text TOLD by the authors' own Lean function (tested against real Go, not proved from fmt's source: count such statements apart). THE CARD IS WHAT COUNTS. Prove the row's statement (the work); the ties are given (YtmmjfpcmempeeaaDoorTie.lean); close each card by the builder's one call (the guide's Derived/Test/ToyasCard.lean, 'card_holds'). Laid BY PROGRAM, IN A SANDBOX (cutbox-door.mjs). By AI agents, Wed Nov 11 2026. No macro, syntax, notation, axiom, sorry.
-/
import Derived.Test.YtmmjfpcmempeeaaDoorRows
import GoSem.ClaimSeven
namespace Go.Proofs.YtmmjfpcmempeeaaDoor
namespace Rows

/-- THE TIED CARD OF 'laws.FnRunes'. -/
def fnRunesCard : Claim7 := { stood := { row := fnRunesRow, standIns := [], harness := (true, "6cdd4d66100326db8c3038888a1b3a1a86ec1e9525c29eed0e71feee779bcf81"), looks := true }, kinds := [], alts := [], laidByText := true, laidKinds := [.data, .data, .sentinel, .sentinel, .sentinel, .sentinel, .sentinel, .sentinel, .sentinel, .sentinel], laidTests := true, laidLooks := .later }
def FnRunesCardSaid : Prop := Claim7.holds Tryd.pinned (.plain (OpenSpec.ofChange fnRunesSpec)) fnRunesCard

/-- THE TIED CARD OF 'laws.FnAnew'. -/
def fnAnewCard : Claim7 := { stood := { row := fnAnewRow, standIns := [], harness := (true, "6cdd4d66100326db8c3038888a1b3a1a86ec1e9525c29eed0e71feee779bcf81"), looks := true }, kinds := [], alts := [], laidByText := true, laidKinds := [.data, .data, .sentinel, .sentinel, .sentinel, .sentinel, .sentinel, .sentinel, .sentinel, .sentinel], laidTests := true, laidLooks := .later }
def FnAnewCardSaid : Prop := Claim7.holds Tryd.pinned (.plain (OpenSpec.ofChange fnAnewSpec)) fnAnewCard

/-- THE TIED CARD OF 'laws.FnPieces'. -/
def fnPiecesCard : Claim7 := { stood := { row := fnPiecesRow, standIns := [], harness := (true, "6cdd4d66100326db8c3038888a1b3a1a86ec1e9525c29eed0e71feee779bcf81"), looks := true }, kinds := [], alts := [], laidByText := true, laidKinds := [.data, .data, .sentinel, .sentinel, .sentinel, .sentinel, .sentinel, .sentinel, .sentinel, .sentinel], laidTests := true, laidLooks := .later }
def FnPiecesCardSaid : Prop := Claim7.holds Tryd.pinned (.plain (OpenSpec.ofChange fnPiecesSpec)) fnPiecesCard

/-- THE TIED CARD OF 'laws.FnSteps'. -/
def fnStepsCard : Claim7 := { stood := { row := fnStepsRow, standIns := [], harness := (true, "6cdd4d66100326db8c3038888a1b3a1a86ec1e9525c29eed0e71feee779bcf81"), looks := true }, kinds := [], alts := [], laidByText := true, laidKinds := [.data, .data, .sentinel, .sentinel, .sentinel, .sentinel, .sentinel, .sentinel, .sentinel, .sentinel], laidTests := true, laidLooks := .later }
def FnStepsCardSaid : Prop := Claim7.holds Tryd.pinned (.plain (OpenSpec.ofChange fnStepsSpec)) fnStepsCard

/-- THE TIED CARD OF 'laws.FnDrain'. -/
def fnDrainCard : Claim7 := { stood := { row := fnDrainRow, standIns := [], harness := (true, "6cdd4d66100326db8c3038888a1b3a1a86ec1e9525c29eed0e71feee779bcf81"), looks := true }, kinds := [], alts := [], laidByText := true, laidKinds := [.data, .data, .sentinel, .sentinel, .sentinel, .sentinel, .sentinel, .sentinel, .sentinel, .sentinel, .sentinel], laidTests := true, laidLooks := .later }
def FnDrainCardSaid : Prop := Claim7.holds Tryd.pinned (.plain (OpenSpec.ofChange fnDrainSpec)) fnDrainCard

/-- THE TIED CARD OF 'laws.FnRest'. -/
def fnRestCard : Claim7 := { stood := { row := fnRestRow, standIns := [], harness := (true, "6cdd4d66100326db8c3038888a1b3a1a86ec1e9525c29eed0e71feee779bcf81"), looks := true }, kinds := [], alts := [], laidByText := true, laidKinds := [.sentinel, .sentinel, .sentinel, .sentinel, .sentinel, .sentinel, .sentinel, .sentinel, .sentinel], laidTests := true, laidLooks := .later }
def FnRestCardSaid : Prop := Claim7.holds Tryd.pinned (.plain (OpenSpec.ofChange fnRestSpec)) fnRestCard

/-- THE SECOND FORM's CARD OF 'laws.FnRunes'. -/
def fnRunesUptoCard : Claim7 := { stood := { row := fnRunesUptoRow, standIns := [], harness := (true, "6cdd4d66100326db8c3038888a1b3a1a86ec1e9525c29eed0e71feee779bcf81"), looks := true }, kinds := [], alts := [], laidByText := true, laidKinds := [.data, .data, .sentinel, .sentinel, .sentinel, .sentinel, .sentinel, .sentinel, .sentinel, .sentinel], laidTests := true, laidLooks := .later }
def FnRunesUptoCardSaid : Prop := Claim7.holds Tryd.pinned (.plain (OpenSpec.upto fnRunesSpec)) fnRunesUptoCard

/-- THE SECOND FORM's CARD OF 'laws.FnAnew'. -/
def fnAnewUptoCard : Claim7 := { stood := { row := fnAnewUptoRow, standIns := [], harness := (true, "6cdd4d66100326db8c3038888a1b3a1a86ec1e9525c29eed0e71feee779bcf81"), looks := true }, kinds := [], alts := [], laidByText := true, laidKinds := [.data, .data, .sentinel, .sentinel, .sentinel, .sentinel, .sentinel, .sentinel, .sentinel, .sentinel], laidTests := true, laidLooks := .later }
def FnAnewUptoCardSaid : Prop := Claim7.holds Tryd.pinned (.plain (OpenSpec.upto fnAnewSpec)) fnAnewUptoCard

/-- THE SECOND FORM's CARD OF 'laws.FnPieces'. -/
def fnPiecesUptoCard : Claim7 := { stood := { row := fnPiecesUptoRow, standIns := [], harness := (true, "6cdd4d66100326db8c3038888a1b3a1a86ec1e9525c29eed0e71feee779bcf81"), looks := true }, kinds := [], alts := [], laidByText := true, laidKinds := [.data, .data, .sentinel, .sentinel, .sentinel, .sentinel, .sentinel, .sentinel, .sentinel, .sentinel], laidTests := true, laidLooks := .later }
def FnPiecesUptoCardSaid : Prop := Claim7.holds Tryd.pinned (.plain (OpenSpec.upto fnPiecesSpec)) fnPiecesUptoCard

/-- THE SECOND FORM's CARD OF 'laws.FnSteps'. -/
def fnStepsUptoCard : Claim7 := { stood := { row := fnStepsUptoRow, standIns := [], harness := (true, "6cdd4d66100326db8c3038888a1b3a1a86ec1e9525c29eed0e71feee779bcf81"), looks := true }, kinds := [], alts := [], laidByText := true, laidKinds := [.data, .data, .sentinel, .sentinel, .sentinel, .sentinel, .sentinel, .sentinel, .sentinel, .sentinel], laidTests := true, laidLooks := .later }
def FnStepsUptoCardSaid : Prop := Claim7.holds Tryd.pinned (.plain (OpenSpec.upto fnStepsSpec)) fnStepsUptoCard

/-- THE SECOND FORM's CARD OF 'laws.FnDrain'. -/
def fnDrainUptoCard : Claim7 := { stood := { row := fnDrainUptoRow, standIns := [], harness := (true, "6cdd4d66100326db8c3038888a1b3a1a86ec1e9525c29eed0e71feee779bcf81"), looks := true }, kinds := [], alts := [], laidByText := true, laidKinds := [.data, .data, .sentinel, .sentinel, .sentinel, .sentinel, .sentinel, .sentinel, .sentinel, .sentinel, .sentinel], laidTests := true, laidLooks := .later }
def FnDrainUptoCardSaid : Prop := Claim7.holds Tryd.pinned (.plain (OpenSpec.upto fnDrainSpec)) fnDrainUptoCard

/-- THE SECOND FORM's CARD OF 'laws.FnRest'. -/
def fnRestUptoCard : Claim7 := { stood := { row := fnRestUptoRow, standIns := [], harness := (true, "6cdd4d66100326db8c3038888a1b3a1a86ec1e9525c29eed0e71feee779bcf81"), looks := true }, kinds := [], alts := [], laidByText := true, laidKinds := [.sentinel, .sentinel, .sentinel, .sentinel, .sentinel, .sentinel, .sentinel, .sentinel, .sentinel], laidTests := true, laidLooks := .later }
def FnRestUptoCardSaid : Prop := Claim7.holds Tryd.pinned (.plain (OpenSpec.upto fnRestSpec)) fnRestUptoCard
end Rows
end Go.Proofs.YtmmjfpcmempeeaaDoor
