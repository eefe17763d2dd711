/-
  DERIVED. GIVEN WITH THE SEED: THE CARDS: each row of YtgbbogocfmepiaaDoorRows.lean that lists a variable, with what it lists TIED to the program's text (the seventh form; the later family's looks); each row that meets fmt, with fmt's text TOLD by the authors' own Lean function (tested against real Go, not proved from fmt's source: count such statements apart). THE CARD IS WHAT COUNTS. Prove the row's statement (the work); the ties are given (YtgbbogocfmepiaaDoorTie.lean); close each card by the builder's one call (the guide's Derived/Test/ToyasCard.lean, 'card_holds'). Laid BY PROGRAM, IN A SANDBOX (cutbox-door.mjs). By AI agents, Wed Nov 11 2026. No macro, syntax, notation, axiom, sorry.
-/
import Derived.Test.YtgbbogocfmepiaaDoorRows
import GoSem.ClaimSeven
namespace Go.Proofs.YtgbbogocfmepiaaDoor
namespace Rows

/-- THE TIED CARD OF 'laws.FnScan'. -/
def fnScanCard : Claim7 := { stood := { row := fnScanRow, standIns := [], harness := (true, "dcde532a0cb93bf65400a33e84907795fba819a661a3808cea96ec1408955bb3"), looks := true }, kinds := [], alts := [], laidByText := true, laidKinds := [.data, .data, .sentinel, .sentinel, .sentinel, .sentinel, .sentinel, .sentinel, .sentinel, .sentinel, .sentinel, .sentinel, .sentinel], laidTests := true, laidLooks := .later }
def FnScanCardSaid : Prop := Claim7.holds Tryd.pinned (.plain (OpenSpec.ofChange fnScanSpec)) fnScanCard

/-- THE TIED CARD OF 'laws.FnScanLong'. -/
def fnScanLongCard : Claim7 := { stood := { row := fnScanLongRow, standIns := [], harness := (true, "dcde532a0cb93bf65400a33e84907795fba819a661a3808cea96ec1408955bb3"), looks := true }, kinds := [], alts := [], laidByText := true, laidKinds := [.data, .data, .sentinel, .sentinel, .sentinel, .sentinel, .sentinel, .sentinel, .sentinel, .sentinel, .sentinel, .sentinel, .sentinel], laidTests := true, laidLooks := .later }
def FnScanLongCardSaid : Prop := Claim7.holds Tryd.pinned (.plain (OpenSpec.ofChange fnScanLongSpec)) fnScanLongCard

/-- THE TIED CARD OF 'laws.FnFails'. -/
def fnFailsCard : Claim7 := { stood := { row := fnFailsRow, standIns := [], harness := (true, "dcde532a0cb93bf65400a33e84907795fba819a661a3808cea96ec1408955bb3"), looks := true }, kinds := [], alts := [], laidByText := true, laidKinds := [.sentinel, .sentinel, .sentinel, .sentinel, .sentinel, .sentinel, .sentinel, .sentinel], laidTests := true, laidLooks := .later }
def FnFailsCardSaid : Prop := Claim7.holds Tryd.pinned (.plain (OpenSpec.ofChange fnFailsSpec)) fnFailsCard

/-- THE TIED CARD OF 'laws.FnFlushed'. -/
def fnFlushedCard : Claim7 := { stood := { row := fnFlushedRow, standIns := [], harness := (true, "dcde532a0cb93bf65400a33e84907795fba819a661a3808cea96ec1408955bb3"), looks := true }, kinds := [], alts := [], laidByText := true, laidKinds := [.sentinel, .sentinel, .sentinel, .sentinel, .sentinel, .sentinel, .sentinel, .sentinel], laidTests := true, laidLooks := .later }
def FnFlushedCardSaid : Prop := Claim7.holds Tryd.pinned (.plain (OpenSpec.ofChange fnFlushedSpec)) fnFlushedCard

/-- THE TIED CARD OF 'laws.FnWritten'. -/
def fnWrittenCard : Claim7 := { stood := { row := fnWrittenRow, standIns := [], harness := (true, "dcde532a0cb93bf65400a33e84907795fba819a661a3808cea96ec1408955bb3"), looks := true }, kinds := [], alts := [], laidByText := true, laidKinds := [.sentinel, .sentinel, .sentinel, .sentinel, .sentinel, .sentinel, .sentinel, .sentinel], laidTests := true, laidLooks := .later }
def FnWrittenCardSaid : Prop := Claim7.holds Tryd.pinned (.plain (OpenSpec.ofChange fnWrittenSpec)) fnWrittenCard

/-- THE SECOND FORM's CARD OF 'laws.FnScan'. -/
def fnScanUptoCard : Claim7 := { stood := { row := fnScanUptoRow, standIns := [], harness := (true, "dcde532a0cb93bf65400a33e84907795fba819a661a3808cea96ec1408955bb3"), looks := true }, kinds := [], alts := [], laidByText := true, laidKinds := [.data, .data, .sentinel, .sentinel, .sentinel, .sentinel, .sentinel, .sentinel, .sentinel, .sentinel, .sentinel, .sentinel, .sentinel], laidTests := true, laidLooks := .later }
def FnScanUptoCardSaid : Prop := Claim7.holds Tryd.pinned (.plain (OpenSpec.upto fnScanSpec)) fnScanUptoCard

/-- THE SECOND FORM's CARD OF 'laws.FnScanLong'. -/
def fnScanLongUptoCard : Claim7 := { stood := { row := fnScanLongUptoRow, standIns := [], harness := (true, "dcde532a0cb93bf65400a33e84907795fba819a661a3808cea96ec1408955bb3"), looks := true }, kinds := [], alts := [], laidByText := true, laidKinds := [.data, .data, .sentinel, .sentinel, .sentinel, .sentinel, .sentinel, .sentinel, .sentinel, .sentinel, .sentinel, .sentinel, .sentinel], laidTests := true, laidLooks := .later }
def FnScanLongUptoCardSaid : Prop := Claim7.holds Tryd.pinned (.plain (OpenSpec.upto fnScanLongSpec)) fnScanLongUptoCard

/-- THE SECOND FORM's CARD OF 'laws.FnFails'. -/
def fnFailsUptoCard : Claim7 := { stood := { row := fnFailsUptoRow, standIns := [], harness := (true, "dcde532a0cb93bf65400a33e84907795fba819a661a3808cea96ec1408955bb3"), looks := true }, kinds := [], alts := [], laidByText := true, laidKinds := [.sentinel, .sentinel, .sentinel, .sentinel, .sentinel, .sentinel, .sentinel, .sentinel], laidTests := true, laidLooks := .later }
def FnFailsUptoCardSaid : Prop := Claim7.holds Tryd.pinned (.plain (OpenSpec.upto fnFailsSpec)) fnFailsUptoCard

/-- THE SECOND FORM's CARD OF 'laws.FnFlushed'. -/
def fnFlushedUptoCard : Claim7 := { stood := { row := fnFlushedUptoRow, standIns := [], harness := (true, "dcde532a0cb93bf65400a33e84907795fba819a661a3808cea96ec1408955bb3"), looks := true }, kinds := [], alts := [], laidByText := true, laidKinds := [.sentinel, .sentinel, .sentinel, .sentinel, .sentinel, .sentinel, .sentinel, .sentinel], laidTests := true, laidLooks := .later }
def FnFlushedUptoCardSaid : Prop := Claim7.holds Tryd.pinned (.plain (OpenSpec.upto fnFlushedSpec)) fnFlushedUptoCard

/-- THE SECOND FORM's CARD OF 'laws.FnWritten'. -/
def fnWrittenUptoCard : Claim7 := { stood := { row := fnWrittenUptoRow, standIns := [], harness := (true, "dcde532a0cb93bf65400a33e84907795fba819a661a3808cea96ec1408955bb3"), looks := true }, kinds := [], alts := [], laidByText := true, laidKinds := [.sentinel, .sentinel, .sentinel, .sentinel, .sentinel, .sentinel, .sentinel, .sentinel], laidTests := true, laidLooks := .later }
def FnWrittenUptoCardSaid : Prop := Claim7.holds Tryd.pinned (.plain (OpenSpec.upto fnWrittenSpec)) fnWrittenUptoCard
end Rows
end Go.Proofs.YtgbbogocfmepiaaDoor
