/-
  DERIVED. GIVEN WITH THE SEED: THE CARDS: each row of YtnpalkndocokkaaDoorRows.lean that lists a variable, with what it lists TIED to the program's text (the seventh form; the later family's looks); each row that meets fmt, with fmt's text TOLD by the authors' own Lean function (tested against real Go, not proved from fmt's source: count such statements apart). THE CARD IS WHAT COUNTS. Prove the row's statement (the work); the ties are given (YtnpalkndocokkaaDoorTie.lean); close each card by the builder's one call (the guide's Derived/Test/ToyasCard.lean, 'card_holds'). Laid BY PROGRAM, IN A SANDBOX (cutbox-door.mjs). By AI agents, Wed Nov 11 2026. No macro, syntax, notation, axiom, sorry.
-/
import Derived.Test.YtnpalkndocokkaaDoorRows
import GoSem.ClaimSeven
namespace Go.Proofs.YtnpalkndocokkaaDoor
namespace Rows

/-- THE TIED CARD OF 'laws.FnBytes'. -/
def fnBytesCard : Claim7 := { stood := { row := fnBytesRow, standIns := [], harness := (true, "ec9ba523fdd1b904612b39f301de0600510e3ac45888da4cd809fee132812a93"), looks := true }, kinds := [], alts := [], laidByText := true, laidKinds := [.sentinel, .sentinel, .sentinel, .sentinel, .sentinel, .sentinel, .sentinel, .sentinel], laidTests := true, laidLooks := .later }
def FnBytesCardSaid : Prop := Claim7.holds Tryd.pinned (.plain (OpenSpec.ofChange fnBytesSpec)) fnBytesCard

/-- THE TIED CARD OF 'laws.FnPeeked'. -/
def fnPeekedCard : Claim7 := { stood := { row := fnPeekedRow, standIns := [], harness := (true, "ec9ba523fdd1b904612b39f301de0600510e3ac45888da4cd809fee132812a93"), looks := true }, kinds := [], alts := [], laidByText := true, laidKinds := [.sentinel, .sentinel, .sentinel, .sentinel, .sentinel, .sentinel, .sentinel, .sentinel], laidTests := true, laidLooks := .later }
def FnPeekedCardSaid : Prop := Claim7.holds Tryd.pinned (.plain (OpenSpec.ofChange fnPeekedSpec)) fnPeekedCard

/-- THE TIED CARD OF 'laws.FnDiscarded'. -/
def fnDiscardedCard : Claim7 := { stood := { row := fnDiscardedRow, standIns := [], harness := (true, "ec9ba523fdd1b904612b39f301de0600510e3ac45888da4cd809fee132812a93"), looks := true }, kinds := [], alts := [], laidByText := true, laidKinds := [.sentinel, .sentinel, .sentinel, .sentinel, .sentinel, .sentinel, .sentinel, .sentinel], laidTests := true, laidLooks := .later }
def FnDiscardedCardSaid : Prop := Claim7.holds Tryd.pinned (.plain (OpenSpec.ofChange fnDiscardedSpec)) fnDiscardedCard

/-- THE TIED CARD OF 'laws.FnSlices'. -/
def fnSlicesCard : Claim7 := { stood := { row := fnSlicesRow, standIns := [], harness := (true, "ec9ba523fdd1b904612b39f301de0600510e3ac45888da4cd809fee132812a93"), looks := true }, kinds := [], alts := [], laidByText := true, laidKinds := [.sentinel, .sentinel, .sentinel, .sentinel, .sentinel, .sentinel, .sentinel, .sentinel], laidTests := true, laidLooks := .later }
def FnSlicesCardSaid : Prop := Claim7.holds Tryd.pinned (.plain (OpenSpec.ofChange fnSlicesSpec)) fnSlicesCard

/-- THE TIED CARD OF 'laws.FnParts'. -/
def fnPartsCard : Claim7 := { stood := { row := fnPartsRow, standIns := [], harness := (true, "ec9ba523fdd1b904612b39f301de0600510e3ac45888da4cd809fee132812a93"), looks := true }, kinds := [], alts := [], laidByText := true, laidKinds := [.sentinel, .sentinel, .sentinel, .sentinel, .sentinel, .sentinel, .sentinel, .sentinel], laidTests := true, laidLooks := .later }
def FnPartsCardSaid : Prop := Claim7.holds Tryd.pinned (.plain (OpenSpec.ofChange fnPartsSpec)) fnPartsCard

/-- THE TIED CARD OF 'laws.FnLines'. -/
def fnLinesCard : Claim7 := { stood := { row := fnLinesRow, standIns := [], harness := (true, "ec9ba523fdd1b904612b39f301de0600510e3ac45888da4cd809fee132812a93"), looks := true }, kinds := [], alts := [], laidByText := true, laidKinds := [.sentinel, .sentinel, .sentinel, .sentinel, .sentinel, .sentinel, .sentinel, .sentinel], laidTests := true, laidLooks := .later }
def FnLinesCardSaid : Prop := Claim7.holds Tryd.pinned (.plain (OpenSpec.ofChange fnLinesSpec)) fnLinesCard

/-- THE TIED CARD OF 'laws.FnTexts'. -/
def fnTextsCard : Claim7 := { stood := { row := fnTextsRow, standIns := [], harness := (true, "ec9ba523fdd1b904612b39f301de0600510e3ac45888da4cd809fee132812a93"), looks := true }, kinds := [], alts := [], laidByText := true, laidKinds := [.sentinel, .sentinel, .sentinel, .sentinel, .sentinel, .sentinel, .sentinel, .sentinel], laidTests := true, laidLooks := .later }
def FnTextsCardSaid : Prop := Claim7.holds Tryd.pinned (.plain (OpenSpec.ofChange fnTextsSpec)) fnTextsCard

/-- THE SECOND FORM's CARD OF 'laws.FnBytes'. -/
def fnBytesUptoCard : Claim7 := { stood := { row := fnBytesUptoRow, standIns := [], harness := (true, "ec9ba523fdd1b904612b39f301de0600510e3ac45888da4cd809fee132812a93"), looks := true }, kinds := [], alts := [], laidByText := true, laidKinds := [.sentinel, .sentinel, .sentinel, .sentinel, .sentinel, .sentinel, .sentinel, .sentinel], laidTests := true, laidLooks := .later }
def FnBytesUptoCardSaid : Prop := Claim7.holds Tryd.pinned (.plain (OpenSpec.upto fnBytesSpec)) fnBytesUptoCard

/-- THE SECOND FORM's CARD OF 'laws.FnPeeked'. -/
def fnPeekedUptoCard : Claim7 := { stood := { row := fnPeekedUptoRow, standIns := [], harness := (true, "ec9ba523fdd1b904612b39f301de0600510e3ac45888da4cd809fee132812a93"), looks := true }, kinds := [], alts := [], laidByText := true, laidKinds := [.sentinel, .sentinel, .sentinel, .sentinel, .sentinel, .sentinel, .sentinel, .sentinel], laidTests := true, laidLooks := .later }
def FnPeekedUptoCardSaid : Prop := Claim7.holds Tryd.pinned (.plain (OpenSpec.upto fnPeekedSpec)) fnPeekedUptoCard

/-- THE SECOND FORM's CARD OF 'laws.FnDiscarded'. -/
def fnDiscardedUptoCard : Claim7 := { stood := { row := fnDiscardedUptoRow, standIns := [], harness := (true, "ec9ba523fdd1b904612b39f301de0600510e3ac45888da4cd809fee132812a93"), looks := true }, kinds := [], alts := [], laidByText := true, laidKinds := [.sentinel, .sentinel, .sentinel, .sentinel, .sentinel, .sentinel, .sentinel, .sentinel], laidTests := true, laidLooks := .later }
def FnDiscardedUptoCardSaid : Prop := Claim7.holds Tryd.pinned (.plain (OpenSpec.upto fnDiscardedSpec)) fnDiscardedUptoCard

/-- THE SECOND FORM's CARD OF 'laws.FnSlices'. -/
def fnSlicesUptoCard : Claim7 := { stood := { row := fnSlicesUptoRow, standIns := [], harness := (true, "ec9ba523fdd1b904612b39f301de0600510e3ac45888da4cd809fee132812a93"), looks := true }, kinds := [], alts := [], laidByText := true, laidKinds := [.sentinel, .sentinel, .sentinel, .sentinel, .sentinel, .sentinel, .sentinel, .sentinel], laidTests := true, laidLooks := .later }
def FnSlicesUptoCardSaid : Prop := Claim7.holds Tryd.pinned (.plain (OpenSpec.upto fnSlicesSpec)) fnSlicesUptoCard

/-- THE SECOND FORM's CARD OF 'laws.FnParts'. -/
def fnPartsUptoCard : Claim7 := { stood := { row := fnPartsUptoRow, standIns := [], harness := (true, "ec9ba523fdd1b904612b39f301de0600510e3ac45888da4cd809fee132812a93"), looks := true }, kinds := [], alts := [], laidByText := true, laidKinds := [.sentinel, .sentinel, .sentinel, .sentinel, .sentinel, .sentinel, .sentinel, .sentinel], laidTests := true, laidLooks := .later }
def FnPartsUptoCardSaid : Prop := Claim7.holds Tryd.pinned (.plain (OpenSpec.upto fnPartsSpec)) fnPartsUptoCard

/-- THE SECOND FORM's CARD OF 'laws.FnLines'. -/
def fnLinesUptoCard : Claim7 := { stood := { row := fnLinesUptoRow, standIns := [], harness := (true, "ec9ba523fdd1b904612b39f301de0600510e3ac45888da4cd809fee132812a93"), looks := true }, kinds := [], alts := [], laidByText := true, laidKinds := [.sentinel, .sentinel, .sentinel, .sentinel, .sentinel, .sentinel, .sentinel, .sentinel], laidTests := true, laidLooks := .later }
def FnLinesUptoCardSaid : Prop := Claim7.holds Tryd.pinned (.plain (OpenSpec.upto fnLinesSpec)) fnLinesUptoCard

/-- THE SECOND FORM's CARD OF 'laws.FnTexts'. -/
def fnTextsUptoCard : Claim7 := { stood := { row := fnTextsUptoRow, standIns := [], harness := (true, "ec9ba523fdd1b904612b39f301de0600510e3ac45888da4cd809fee132812a93"), looks := true }, kinds := [], alts := [], laidByText := true, laidKinds := [.sentinel, .sentinel, .sentinel, .sentinel, .sentinel, .sentinel, .sentinel, .sentinel], laidTests := true, laidLooks := .later }
def FnTextsUptoCardSaid : Prop := Claim7.holds Tryd.pinned (.plain (OpenSpec.upto fnTextsSpec)) fnTextsUptoCard
end Rows
end Go.Proofs.YtnpalkndocokkaaDoor
