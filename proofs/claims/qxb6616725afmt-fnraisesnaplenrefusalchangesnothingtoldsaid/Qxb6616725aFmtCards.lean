/-
  DERIVED. GIVEN WITH THE SEED: THE CARDS: each row of Qxb6616725aFmtRows.lean that lists a variable, with what it lists TIED to the program's text (the seventh form; the later family's looks); each row that meets fmt, with fmt's text TOLD by the authors' own Lean function (tested against real Go, not proved from fmt's source: count such statements apart). THE CARD IS WHAT COUNTS. Prove the row's statement (the work); the ties are given (Qxb6616725aFmtTie.lean); close each card by the builder's one call (the guide's Derived/Test/ToyasCard.lean, 'card_holds'). Laid BY PROGRAM, IN A SANDBOX (cutbox-door.mjs). By AI agents, Wed Nov 11 2026. No macro, syntax, notation, axiom, sorry.
-/
import Derived.Test.Qxb6616725aFmtRows
import GoSem.ClaimSeven
namespace Go.Proofs.Qxb6616725aFmt
namespace Rows

/-- THE TOLD AND TIED CARD OF 'zzlaws_internal_pcap_b1.FnNewWriterFlushesPcapGlobalHeader'. -/
def fnNewWriterFlushesPcapGlobalHeaderCard : Claim7 := { stood := { row := fnNewWriterFlushesPcapGlobalHeaderRow, standIns := [], harness := (true, "d3c73981a384b742bff29b4e328520d0d84c76aa6a7d496fdf26e50376231bc5"), looks := true }, told := true, laidByText := true, laidKinds := [.sentinel], laidTests := true, laidLooks := .later, goes := false }
def FnNewWriterFlushesPcapGlobalHeaderToldSaid : Prop := Claim7.holds Tryf.pinned (.plain (OpenSpec.ofChange fnNewWriterFlushesPcapGlobalHeaderSpec)) fnNewWriterFlushesPcapGlobalHeaderCard
/-- ITS FALSE NEIGHBOUR. Refute it at one input. -/
def FnNewWriterFlushesPcapGlobalHeaderToldWrongFalsely : Prop := Claim7.holds Tryf.pinned (.plain (OpenSpec.ofChange fnNewWriterFlushesPcapGlobalHeaderWrong)) fnNewWriterFlushesPcapGlobalHeaderCard

/-- THE TOLD AND TIED CARD OF 'zzlaws_internal_pcap_b1.FnNewWriterOrdersAndUnitsAgree'. -/
def fnNewWriterOrdersAndUnitsAgreeCard : Claim7 := { stood := { row := fnNewWriterOrdersAndUnitsAgreeRow, standIns := [], harness := (true, "d3c73981a384b742bff29b4e328520d0d84c76aa6a7d496fdf26e50376231bc5"), looks := true }, told := true, laidByText := true, laidKinds := [.sentinel], laidTests := true, laidLooks := .later, goes := false }
def FnNewWriterOrdersAndUnitsAgreeToldSaid : Prop := Claim7.holds Tryf.pinned (.plain (OpenSpec.ofChange fnNewWriterOrdersAndUnitsAgreeSpec)) fnNewWriterOrdersAndUnitsAgreeCard
/-- ITS FALSE NEIGHBOUR. Refute it at one input. -/
def FnNewWriterOrdersAndUnitsAgreeToldWrongFalsely : Prop := Claim7.holds Tryf.pinned (.plain (OpenSpec.ofChange fnNewWriterOrdersAndUnitsAgreeWrong)) fnNewWriterOrdersAndUnitsAgreeCard

/-- THE TOLD AND TIED CARD OF 'zzlaws_internal_pcap_b1.FnFlushWritesOutAllAndOnlyWhatIsHeld'. -/
def fnFlushWritesOutAllAndOnlyWhatIsHeldCard : Claim7 := { stood := { row := fnFlushWritesOutAllAndOnlyWhatIsHeldRow, standIns := [], harness := (true, "d3c73981a384b742bff29b4e328520d0d84c76aa6a7d496fdf26e50376231bc5"), looks := true }, told := true, laidByText := true, laidKinds := [.sentinel], laidTests := true, laidLooks := .later, goes := false }
def FnFlushWritesOutAllAndOnlyWhatIsHeldToldSaid : Prop := Claim7.holds Tryf.pinned (.plain (OpenSpec.ofChange fnFlushWritesOutAllAndOnlyWhatIsHeldSpec)) fnFlushWritesOutAllAndOnlyWhatIsHeldCard
/-- ITS FALSE NEIGHBOUR. Refute it at one input. -/
def FnFlushWritesOutAllAndOnlyWhatIsHeldToldWrongFalsely : Prop := Claim7.holds Tryf.pinned (.plain (OpenSpec.ofChange fnFlushWritesOutAllAndOnlyWhatIsHeldWrong)) fnFlushWritesOutAllAndOnlyWhatIsHeldCard

/-- THE TOLD AND TIED CARD OF 'zzlaws_internal_pcap_b1.FnRaiseSnapLenRefusalChangesNothing'. -/
def fnRaiseSnapLenRefusalChangesNothingCard : Claim7 := { stood := { row := fnRaiseSnapLenRefusalChangesNothingRow, standIns := [], harness := (true, "d3c73981a384b742bff29b4e328520d0d84c76aa6a7d496fdf26e50376231bc5"), looks := true }, told := true, laidByText := true, laidKinds := [.sentinel], laidTests := true, laidLooks := .later, goes := false }
def FnRaiseSnapLenRefusalChangesNothingToldSaid : Prop := Claim7.holds Tryf.pinned (.plain (OpenSpec.ofChange fnRaiseSnapLenRefusalChangesNothingSpec)) fnRaiseSnapLenRefusalChangesNothingCard
/-- ITS FALSE NEIGHBOUR. Refute it at one input. -/
def FnRaiseSnapLenRefusalChangesNothingToldWrongFalsely : Prop := Claim7.holds Tryf.pinned (.plain (OpenSpec.ofChange fnRaiseSnapLenRefusalChangesNothingWrong)) fnRaiseSnapLenRefusalChangesNothingCard
end Rows
end Go.Proofs.Qxb6616725aFmt
