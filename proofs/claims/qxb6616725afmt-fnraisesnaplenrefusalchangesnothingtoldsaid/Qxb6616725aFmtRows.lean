/-
  NARROWER THAN 'FOR EVERY INPUT', by the rows' own cells (each row's printed sentence says how): FnNewWriterFlushesPcapGlobalHeader: laid · FnNewWriterOrdersAndUnitsAgree: laid · FnFlushWritesOutAllAndOnlyWhatIsHeld: laid · FnRaiseSnapLenRefusalChangesNothing: laid.
  DERIVED. THE GIVEN ROWS OF THIS SEAT. 4 by the template 'for every input the law returns true; each argument reads behind the call as it read before'; 0 by the template 'total and deterministic' (their statements: Qxb6616725aFmtTotals.lean).
  GIVEN WITH THE SEED: the statements are not yours to turn. If you find one false, say at which input.
  Laid BY PROGRAM, IN A SANDBOX (cutbox-rows.mjs): the forced cells as the released guide's own fill.sh prints them over the translation fedb9d473705c7cc… (all of the seat's roots in one cut). By AI agents, Wed Nov 11 2026. No macro, syntax, notation, axiom, sorry.
-/
import Derived.Test.Qxb6616725aFmtChecked
import GoSem.Claim
import GoSem.ClaimJoined
import GoSem.ClaimMapViews
import Derived.JoinedTies
import Derived.KernelRfl
namespace Go.Proofs.Qxb6616725aFmt
/- THE CELL 'sum', in the pinned program and in every row, IS THE sha256 OF THE DUMP (.gsa) THAT Qxb6616725aFmtProg.lean LOADS. Nothing in Lean hashes anything: it is a label: what it is worth is what the hold of that sum in a sandbox is worth. -/
noncomputable def Tryf.pinned : Pinned := { name := "qxb6616725afmt", sum := "fedb9d473705c7ccf8768409c3c2b738b03c2b5ba9481ff6808ea8262003d0aa", checked := Tryf.checked }
namespace Rows
def none {H : Type} : Left H := { results := [], args := [] }

/- WHAT THE LISTED PACKAGE-LEVEL VARIABLES READ AS WHEN THE CALL BEGINS. Each datum BY PROGRAM (the guide's laid-datum.mjs) off the statement by which the dump's own 'gosem.cut.vars' lays the variable. In a bare row this is a premise. The card (Qxb6616725aFmtCards.lean) ties it to the program's text. -/
def laid_io_ErrShortWrite {H : Type} : DataW H := .iface "*errors.errorString" (.ptr (.agg [.lit (.string [115, 104, 111, 114, 116, 32, 119, 114, 105, 116, 101])]))

/-- 'zzlaws_internal_pcap_b1.FnNewWriterFlushesPcapGlobalHeader': WHATEVER THE INPUT: true; the input reads as it did. -/
def fnNewWriterFlushesPcapGlobalHeaderSpec : ChangeSpec := { name := "fnNewWriterFlushesPcapGlobalHeader", fn := fun _ => fun
  | [d1, d2, d3, d4] => { results := [.lit (.bool true)], args := [d1, d2, d3, d4] }
  | _ => none }
def fnNewWriterFlushesPcapGlobalHeaderRow : OpenClaim := { program := "qxb6616725afmt", sum := "fedb9d473705c7ccf8768409c3c2b738b03c2b5ba9481ff6808ea8262003d0aa", func := "example.com/cipherstride/cipherstride/zzlaws_internal_pcap_b1.FnNewWriterFlushesPcapGlobalHeader", spec := "fnNewWriterFlushesPcapGlobalHeader", stops := ["fmt.errorf"], unfollowed := true, recurses := true, named := ["encoding/binary.BigEndian", "encoding/binary.LittleEndian", "io.ErrShortWrite"], apart := false, laid := [("io.ErrShortWrite", laid_io_ErrShortWrite)] }
/-- NO THEOREM (fmt's text is open here; it may be false): for the released tool's asking of the row's closed facts alone. THE STATEMENT IS 'FnNewWriterFlushesPcapGlobalHeaderToldSaid' (Qxb6616725aFmtCards.lean). -/
def FnNewWriterFlushesPcapGlobalHeaderFormAsk : Prop := fnNewWriterFlushesPcapGlobalHeaderRow.holds Tryf.pinned (OpenSpec.ofChange fnNewWriterFlushesPcapGlobalHeaderSpec)

/-- ITS FALSE NEIGHBOUR: 'it returns false'. Refute it at one input. -/
def fnNewWriterFlushesPcapGlobalHeaderWrong : ChangeSpec := { name := "fnNewWriterFlushesPcapGlobalHeader", fn := fun _ => fun
  | [d1, d2, d3, d4] => { results := [.lit (.bool false)], args := [d1, d2, d3, d4] }
  | _ => none }
def FnNewWriterFlushesPcapGlobalHeaderWrongFormAsk : Prop := fnNewWriterFlushesPcapGlobalHeaderRow.holds Tryf.pinned (OpenSpec.ofChange fnNewWriterFlushesPcapGlobalHeaderWrong)

/-- 'zzlaws_internal_pcap_b1.FnNewWriterOrdersAndUnitsAgree': WHATEVER THE INPUT: true; the input reads as it did. -/
def fnNewWriterOrdersAndUnitsAgreeSpec : ChangeSpec := { name := "fnNewWriterOrdersAndUnitsAgree", fn := fun _ => fun
  | [d1, d2] => { results := [.lit (.bool true)], args := [d1, d2] }
  | _ => none }
def fnNewWriterOrdersAndUnitsAgreeRow : OpenClaim := { program := "qxb6616725afmt", sum := "fedb9d473705c7ccf8768409c3c2b738b03c2b5ba9481ff6808ea8262003d0aa", func := "example.com/cipherstride/cipherstride/zzlaws_internal_pcap_b1.FnNewWriterOrdersAndUnitsAgree", spec := "fnNewWriterOrdersAndUnitsAgree", stops := ["fmt.errorf"], unfollowed := true, recurses := true, named := ["encoding/binary.BigEndian", "encoding/binary.LittleEndian", "io.ErrShortWrite"], apart := false, laid := [("io.ErrShortWrite", laid_io_ErrShortWrite)] }
/-- NO THEOREM (fmt's text is open here; it may be false): for the released tool's asking of the row's closed facts alone. THE STATEMENT IS 'FnNewWriterOrdersAndUnitsAgreeToldSaid' (Qxb6616725aFmtCards.lean). -/
def FnNewWriterOrdersAndUnitsAgreeFormAsk : Prop := fnNewWriterOrdersAndUnitsAgreeRow.holds Tryf.pinned (OpenSpec.ofChange fnNewWriterOrdersAndUnitsAgreeSpec)

/-- ITS FALSE NEIGHBOUR: 'it returns false'. Refute it at one input. -/
def fnNewWriterOrdersAndUnitsAgreeWrong : ChangeSpec := { name := "fnNewWriterOrdersAndUnitsAgree", fn := fun _ => fun
  | [d1, d2] => { results := [.lit (.bool false)], args := [d1, d2] }
  | _ => none }
def FnNewWriterOrdersAndUnitsAgreeWrongFormAsk : Prop := fnNewWriterOrdersAndUnitsAgreeRow.holds Tryf.pinned (OpenSpec.ofChange fnNewWriterOrdersAndUnitsAgreeWrong)

/-- 'zzlaws_internal_pcap_b1.FnFlushWritesOutAllAndOnlyWhatIsHeld': WHATEVER THE INPUT: true; the input reads as it did. -/
def fnFlushWritesOutAllAndOnlyWhatIsHeldSpec : ChangeSpec := { name := "fnFlushWritesOutAllAndOnlyWhatIsHeld", fn := fun _ => fun
  | [d1, d2, d3, d4, d5, d6, d7, d8] => { results := [.lit (.bool true)], args := [d1, d2, d3, d4, d5, d6, d7, d8] }
  | _ => none }
def fnFlushWritesOutAllAndOnlyWhatIsHeldRow : OpenClaim := { program := "qxb6616725afmt", sum := "fedb9d473705c7ccf8768409c3c2b738b03c2b5ba9481ff6808ea8262003d0aa", func := "example.com/cipherstride/cipherstride/zzlaws_internal_pcap_b1.FnFlushWritesOutAllAndOnlyWhatIsHeld", spec := "fnFlushWritesOutAllAndOnlyWhatIsHeld", stops := ["fmt.errorf"], inPlace := ["fmt.errorf"], unfollowed := true, recurses := true, named := ["encoding/binary.BigEndian", "encoding/binary.LittleEndian", "io.ErrShortWrite"], apart := false, laid := [("io.ErrShortWrite", laid_io_ErrShortWrite)] }
/-- NO THEOREM (fmt's text is open here; it may be false): for the released tool's asking of the row's closed facts alone. THE STATEMENT IS 'FnFlushWritesOutAllAndOnlyWhatIsHeldToldSaid' (Qxb6616725aFmtCards.lean). -/
def FnFlushWritesOutAllAndOnlyWhatIsHeldFormAsk : Prop := fnFlushWritesOutAllAndOnlyWhatIsHeldRow.holds Tryf.pinned (OpenSpec.ofChange fnFlushWritesOutAllAndOnlyWhatIsHeldSpec)

/-- ITS FALSE NEIGHBOUR: 'it returns false'. Refute it at one input. -/
def fnFlushWritesOutAllAndOnlyWhatIsHeldWrong : ChangeSpec := { name := "fnFlushWritesOutAllAndOnlyWhatIsHeld", fn := fun _ => fun
  | [d1, d2, d3, d4, d5, d6, d7, d8] => { results := [.lit (.bool false)], args := [d1, d2, d3, d4, d5, d6, d7, d8] }
  | _ => none }
def FnFlushWritesOutAllAndOnlyWhatIsHeldWrongFormAsk : Prop := fnFlushWritesOutAllAndOnlyWhatIsHeldRow.holds Tryf.pinned (OpenSpec.ofChange fnFlushWritesOutAllAndOnlyWhatIsHeldWrong)

/-- 'zzlaws_internal_pcap_b1.FnRaiseSnapLenRefusalChangesNothing': WHATEVER THE INPUT: true; the input reads as it did. -/
def fnRaiseSnapLenRefusalChangesNothingSpec : ChangeSpec := { name := "fnRaiseSnapLenRefusalChangesNothing", fn := fun _ => fun
  | [d1, d2, d3, d4, d5, d6, d7, d8, d9] => { results := [.lit (.bool true)], args := [d1, d2, d3, d4, d5, d6, d7, d8, d9] }
  | _ => none }
def fnRaiseSnapLenRefusalChangesNothingRow : OpenClaim := { program := "qxb6616725afmt", sum := "fedb9d473705c7ccf8768409c3c2b738b03c2b5ba9481ff6808ea8262003d0aa", func := "example.com/cipherstride/cipherstride/zzlaws_internal_pcap_b1.FnRaiseSnapLenRefusalChangesNothing", spec := "fnRaiseSnapLenRefusalChangesNothing", stops := ["fmt.errorf"], inPlace := ["fmt.errorf"], unfollowed := true, recurses := true, named := ["encoding/binary.BigEndian", "encoding/binary.LittleEndian", "io.ErrShortWrite"], apart := false, laid := [("io.ErrShortWrite", laid_io_ErrShortWrite)] }
/-- NO THEOREM (fmt's text is open here; it may be false): for the released tool's asking of the row's closed facts alone. THE STATEMENT IS 'FnRaiseSnapLenRefusalChangesNothingToldSaid' (Qxb6616725aFmtCards.lean). -/
def FnRaiseSnapLenRefusalChangesNothingFormAsk : Prop := fnRaiseSnapLenRefusalChangesNothingRow.holds Tryf.pinned (OpenSpec.ofChange fnRaiseSnapLenRefusalChangesNothingSpec)

/-- ITS FALSE NEIGHBOUR: 'it returns false'. Refute it at one input. -/
def fnRaiseSnapLenRefusalChangesNothingWrong : ChangeSpec := { name := "fnRaiseSnapLenRefusalChangesNothing", fn := fun _ => fun
  | [d1, d2, d3, d4, d5, d6, d7, d8, d9] => { results := [.lit (.bool false)], args := [d1, d2, d3, d4, d5, d6, d7, d8, d9] }
  | _ => none }
def FnRaiseSnapLenRefusalChangesNothingWrongFormAsk : Prop := fnRaiseSnapLenRefusalChangesNothingRow.holds Tryf.pinned (OpenSpec.ofChange fnRaiseSnapLenRefusalChangesNothingWrong)

end Rows
end Go.Proofs.Qxb6616725aFmt
