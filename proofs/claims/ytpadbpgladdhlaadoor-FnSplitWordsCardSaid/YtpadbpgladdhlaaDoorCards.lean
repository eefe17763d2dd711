/-
  DERIVED. GIVEN WITH THE SEED: THE CARDS: each row of YtpadbpgladdhlaaDoorRows.lean that lists a variable, with what it lists TIED to the program's text (the seventh form; the later family's looks); each row that meets fmt, with fmt's text TOLD by the authors' own Lean function (tested against real Go, not proved from fmt's source: count such statements apart). THE CARD IS WHAT COUNTS. Prove the row's statement (the work); the ties are given (YtpadbpgladdhlaaDoorTie.lean); close each card by the builder's one call (the guide's Derived/Test/ToyasCard.lean, 'card_holds'). Laid BY PROGRAM, IN A SANDBOX (cutbox-door.mjs). By AI agents, Wed Nov 11 2026. No macro, syntax, notation, axiom, sorry.
-/
import Derived.Test.YtpadbpgladdhlaaDoorRows
import GoSem.ClaimSeven
namespace Go.Proofs.YtpadbpgladdhlaaDoor
namespace Rows

/-- THE TIED CARD OF 'laws.FnSplitBytes'. -/
def fnSplitBytesCard : Claim7 := { stood := { row := fnSplitBytesRow, standIns := [], harness := (true, "76bfb77ba39387c6b894f0d0d79f1093fb4b1d7dd3b1f822e5e359e24e9db8b2"), looks := true }, kinds := [], alts := [], laidByText := true, laidKinds := [.data, .data, .sentinel, .sentinel, .sentinel, .sentinel, .sentinel, .sentinel, .sentinel], laidTests := true, laidLooks := .later }
def FnSplitBytesCardSaid : Prop := Claim7.holds Tryd.pinned (.plain (OpenSpec.ofChange fnSplitBytesSpec)) fnSplitBytesCard

/-- THE TIED CARD OF 'laws.FnSplitLines'. -/
def fnSplitLinesCard : Claim7 := { stood := { row := fnSplitLinesRow, standIns := [], harness := (true, "76bfb77ba39387c6b894f0d0d79f1093fb4b1d7dd3b1f822e5e359e24e9db8b2"), looks := true }, kinds := [], alts := [], laidByText := true, laidKinds := [.data, .data, .sentinel, .sentinel, .sentinel, .sentinel, .sentinel, .sentinel, .sentinel], laidTests := true, laidLooks := .later }
def FnSplitLinesCardSaid : Prop := Claim7.holds Tryd.pinned (.plain (OpenSpec.ofChange fnSplitLinesSpec)) fnSplitLinesCard

/-- THE TIED CARD OF 'laws.FnSplitRunes'. -/
def fnSplitRunesCard : Claim7 := { stood := { row := fnSplitRunesRow, standIns := [], harness := (true, "76bfb77ba39387c6b894f0d0d79f1093fb4b1d7dd3b1f822e5e359e24e9db8b2"), looks := true }, kinds := [], alts := [], laidByText := true, laidKinds := [.data, .data, .sentinel, .sentinel, .sentinel, .sentinel, .sentinel, .sentinel, .sentinel], laidTests := true, laidLooks := .later }
def FnSplitRunesCardSaid : Prop := Claim7.holds Tryd.pinned (.plain (OpenSpec.ofChange fnSplitRunesSpec)) fnSplitRunesCard

/-- THE TIED CARD OF 'laws.FnSplitWords'. -/
def fnSplitWordsCard : Claim7 := { stood := { row := fnSplitWordsRow, standIns := [], harness := (true, "76bfb77ba39387c6b894f0d0d79f1093fb4b1d7dd3b1f822e5e359e24e9db8b2"), looks := true }, kinds := [], alts := [], laidByText := true, laidKinds := [.data, .data, .sentinel, .sentinel, .sentinel, .sentinel, .sentinel, .sentinel, .sentinel], laidTests := true, laidLooks := .later }
def FnSplitWordsCardSaid : Prop := Claim7.holds Tryd.pinned (.plain (OpenSpec.ofChange fnSplitWordsSpec)) fnSplitWordsCard

/-- THE TIED CARD OF 'laws.FnScan'. -/
def fnScanCard : Claim7 := { stood := { row := fnScanRow, standIns := [], harness := (true, "76bfb77ba39387c6b894f0d0d79f1093fb4b1d7dd3b1f822e5e359e24e9db8b2"), looks := true }, kinds := [], alts := [], laidByText := true, laidKinds := [.data, .data, .sentinel, .sentinel, .sentinel, .sentinel, .sentinel, .sentinel, .sentinel, .sentinel, .sentinel, .sentinel, .sentinel], laidTests := true, laidLooks := .later }
def FnScanCardSaid : Prop := Claim7.holds Tryd.pinned (.plain (OpenSpec.ofChange fnScanSpec)) fnScanCard

/-- THE TIED CARD OF 'laws.FnScanLong'. -/
def fnScanLongCard : Claim7 := { stood := { row := fnScanLongRow, standIns := [], harness := (true, "76bfb77ba39387c6b894f0d0d79f1093fb4b1d7dd3b1f822e5e359e24e9db8b2"), looks := true }, kinds := [], alts := [], laidByText := true, laidKinds := [.data, .data, .sentinel, .sentinel, .sentinel, .sentinel, .sentinel, .sentinel, .sentinel, .sentinel, .sentinel, .sentinel, .sentinel], laidTests := true, laidLooks := .later }
def FnScanLongCardSaid : Prop := Claim7.holds Tryd.pinned (.plain (OpenSpec.ofChange fnScanLongSpec)) fnScanLongCard

/-- THE SECOND FORM's CARD OF 'laws.FnSplitBytes'. -/
def fnSplitBytesUptoCard : Claim7 := { stood := { row := fnSplitBytesUptoRow, standIns := [], harness := (true, "76bfb77ba39387c6b894f0d0d79f1093fb4b1d7dd3b1f822e5e359e24e9db8b2"), looks := true }, kinds := [], alts := [], laidByText := true, laidKinds := [.data, .data, .sentinel, .sentinel, .sentinel, .sentinel, .sentinel, .sentinel, .sentinel], laidTests := true, laidLooks := .later }
def FnSplitBytesUptoCardSaid : Prop := Claim7.holds Tryd.pinned (.plain (OpenSpec.upto fnSplitBytesSpec)) fnSplitBytesUptoCard

/-- THE SECOND FORM's CARD OF 'laws.FnSplitLines'. -/
def fnSplitLinesUptoCard : Claim7 := { stood := { row := fnSplitLinesUptoRow, standIns := [], harness := (true, "76bfb77ba39387c6b894f0d0d79f1093fb4b1d7dd3b1f822e5e359e24e9db8b2"), looks := true }, kinds := [], alts := [], laidByText := true, laidKinds := [.data, .data, .sentinel, .sentinel, .sentinel, .sentinel, .sentinel, .sentinel, .sentinel], laidTests := true, laidLooks := .later }
def FnSplitLinesUptoCardSaid : Prop := Claim7.holds Tryd.pinned (.plain (OpenSpec.upto fnSplitLinesSpec)) fnSplitLinesUptoCard

/-- THE SECOND FORM's CARD OF 'laws.FnSplitRunes'. -/
def fnSplitRunesUptoCard : Claim7 := { stood := { row := fnSplitRunesUptoRow, standIns := [], harness := (true, "76bfb77ba39387c6b894f0d0d79f1093fb4b1d7dd3b1f822e5e359e24e9db8b2"), looks := true }, kinds := [], alts := [], laidByText := true, laidKinds := [.data, .data, .sentinel, .sentinel, .sentinel, .sentinel, .sentinel, .sentinel, .sentinel], laidTests := true, laidLooks := .later }
def FnSplitRunesUptoCardSaid : Prop := Claim7.holds Tryd.pinned (.plain (OpenSpec.upto fnSplitRunesSpec)) fnSplitRunesUptoCard

/-- THE SECOND FORM's CARD OF 'laws.FnSplitWords'. -/
def fnSplitWordsUptoCard : Claim7 := { stood := { row := fnSplitWordsUptoRow, standIns := [], harness := (true, "76bfb77ba39387c6b894f0d0d79f1093fb4b1d7dd3b1f822e5e359e24e9db8b2"), looks := true }, kinds := [], alts := [], laidByText := true, laidKinds := [.data, .data, .sentinel, .sentinel, .sentinel, .sentinel, .sentinel, .sentinel, .sentinel], laidTests := true, laidLooks := .later }
def FnSplitWordsUptoCardSaid : Prop := Claim7.holds Tryd.pinned (.plain (OpenSpec.upto fnSplitWordsSpec)) fnSplitWordsUptoCard

/-- THE SECOND FORM's CARD OF 'laws.FnScan'. -/
def fnScanUptoCard : Claim7 := { stood := { row := fnScanUptoRow, standIns := [], harness := (true, "76bfb77ba39387c6b894f0d0d79f1093fb4b1d7dd3b1f822e5e359e24e9db8b2"), looks := true }, kinds := [], alts := [], laidByText := true, laidKinds := [.data, .data, .sentinel, .sentinel, .sentinel, .sentinel, .sentinel, .sentinel, .sentinel, .sentinel, .sentinel, .sentinel, .sentinel], laidTests := true, laidLooks := .later }
def FnScanUptoCardSaid : Prop := Claim7.holds Tryd.pinned (.plain (OpenSpec.upto fnScanSpec)) fnScanUptoCard

/-- THE SECOND FORM's CARD OF 'laws.FnScanLong'. -/
def fnScanLongUptoCard : Claim7 := { stood := { row := fnScanLongUptoRow, standIns := [], harness := (true, "76bfb77ba39387c6b894f0d0d79f1093fb4b1d7dd3b1f822e5e359e24e9db8b2"), looks := true }, kinds := [], alts := [], laidByText := true, laidKinds := [.data, .data, .sentinel, .sentinel, .sentinel, .sentinel, .sentinel, .sentinel, .sentinel, .sentinel, .sentinel, .sentinel, .sentinel], laidTests := true, laidLooks := .later }
def FnScanLongUptoCardSaid : Prop := Claim7.holds Tryd.pinned (.plain (OpenSpec.upto fnScanLongSpec)) fnScanLongUptoCard
end Rows
end Go.Proofs.YtpadbpgladdhlaaDoor
