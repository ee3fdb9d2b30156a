/-
  NARROWER THAN 'FOR EVERY INPUT', by the rows' own cells (each row's printed sentence says how): FnTraceScannerGivesEachWholeLine: laid · FnTraceScannerGreaterLimitLosesNoLine: laid · FnArgBytesJoinsAtEveryByteBoundary: laid · FnArgBytesOneDigitChanged: laid.
  DERIVED. THE GIVEN ROWS OF THIS SEAT. 4 by the template 'for every input the law returns true; each argument reads behind the call as it read before'; 0 by the template 'total and deterministic' (their statements: Qxb6608719aDoorTotals.lean).
  GIVEN WITH THE SEED: the statements are not yours to turn. If you find one false, say at which input.
  Laid BY PROGRAM, IN A SANDBOX (cutbox-rows.mjs): the forced cells as the released guide's own fill.sh prints them over the translation 111fe20f8991f3b1… (all of the seat's roots in one cut). By AI agents, Wed Nov 11 2026. No macro, syntax, notation, axiom, sorry.
-/
import Derived.Test.Qxb6608719aDoorChecked
import GoSem.Claim
import GoSem.ClaimJoined
import GoSem.ClaimMapViews
import Derived.JoinedTies
import Derived.KernelRfl
namespace Go.Proofs.Qxb6608719aDoor
/- THE CELL 'sum', in the pinned program and in every row, IS THE sha256 OF THE DUMP (.gsa) THAT Qxb6608719aDoorProg.lean LOADS. Nothing in Lean hashes anything: it is a label: what it is worth is what the hold of that sum in a sandbox is worth. -/
noncomputable def Tryd.pinned : Pinned := { name := "qxb6608719adoor", sum := "111fe20f8991f3b1a0ab43824ad850e4c292ad99fba0fcb121af0c7462864c08", checked := Tryd.checked }
namespace Rows
def none {H : Type} : Left H := { results := [], args := [] }

/- WHAT THE LISTED PACKAGE-LEVEL VARIABLES READ AS WHEN THE CALL BEGINS. Each datum BY PROGRAM (the guide's laid-datum.mjs) off the statement by which the dump's own 'gosem.cut.vars' lays the variable. In a bare row this is a premise. The card (Qxb6608719aDoorCards.lean) ties it to the program's text. -/
def laid_io_EOF {H : Type} : DataW H := .iface "*errors.errorString" (.ptr (.agg [.lit (.string [69, 79, 70])]))
def laid_io_ErrNoProgress {H : Type} : DataW H := .iface "*errors.errorString" (.ptr (.agg [.lit (.string [109, 117, 108, 116, 105, 112, 108, 101, 32, 82, 101, 97, 100, 32, 99, 97, 108, 108, 115, 32, 114, 101, 116, 117, 114, 110, 32, 110, 111, 32, 100, 97, 116, 97, 32, 111, 114, 32, 101, 114, 114, 111, 114])]))
def laid_bufio_ErrTooLong {H : Type} : DataW H := .iface "*errors.errorString" (.ptr (.agg [.lit (.string [98, 117, 102, 105, 111, 46, 83, 99, 97, 110, 110, 101, 114, 58, 32, 116, 111, 107, 101, 110, 32, 116, 111, 111, 32, 108, 111, 110, 103])]))
def laid_bufio_ErrNegativeAdvance {H : Type} : DataW H := .iface "*errors.errorString" (.ptr (.agg [.lit (.string [98, 117, 102, 105, 111, 46, 83, 99, 97, 110, 110, 101, 114, 58, 32, 83, 112, 108, 105, 116, 70, 117, 110, 99, 32, 114, 101, 116, 117, 114, 110, 115, 32, 110, 101, 103, 97, 116, 105, 118, 101, 32, 97, 100, 118, 97, 110, 99, 101, 32, 99, 111, 117, 110, 116])]))
def laid_bufio_ErrAdvanceTooFar {H : Type} : DataW H := .iface "*errors.errorString" (.ptr (.agg [.lit (.string [98, 117, 102, 105, 111, 46, 83, 99, 97, 110, 110, 101, 114, 58, 32, 83, 112, 108, 105, 116, 70, 117, 110, 99, 32, 114, 101, 116, 117, 114, 110, 115, 32, 97, 100, 118, 97, 110, 99, 101, 32, 99, 111, 117, 110, 116, 32, 98, 101, 121, 111, 110, 100, 32, 105, 110, 112, 117, 116])]))
def laid_bufio_ErrBadReadCount {H : Type} : DataW H := .iface "*errors.errorString" (.ptr (.agg [.lit (.string [98, 117, 102, 105, 111, 46, 83, 99, 97, 110, 110, 101, 114, 58, 32, 82, 101, 97, 100, 32, 114, 101, 116, 117, 114, 110, 101, 100, 32, 105, 109, 112, 111, 115, 115, 105, 98, 108, 101, 32, 99, 111, 117, 110, 116])]))
def laid_bufio_ErrFinalToken {H : Type} : DataW H := .iface "*errors.errorString" (.ptr (.agg [.lit (.string [102, 105, 110, 97, 108, 32, 116, 111, 107, 101, 110])]))
def laid_encoding_hex_ErrLength {H : Type} : DataW H := .iface "*errors.errorString" (.ptr (.agg [.lit (.string [101, 110, 99, 111, 100, 105, 110, 103, 47, 104, 101, 120, 58, 32, 111, 100, 100, 32, 108, 101, 110, 103, 116, 104, 32, 104, 101, 120, 32, 115, 116, 114, 105, 110, 103])]))

/-- 'zzlaws_internal_artifact_b1.FnTraceScannerGivesEachWholeLine': WHATEVER THE INPUT: true; the input reads as it did. -/
def fnTraceScannerGivesEachWholeLineSpec : ChangeSpec := { name := "fnTraceScannerGivesEachWholeLine", fn := fun _ => fun
  | [d1, d2] => { results := [.lit (.bool true)], args := [d1, d2] }
  | _ => none }
def fnTraceScannerGivesEachWholeLineRow : OpenClaim := { program := "qxb6608719adoor", sum := "111fe20f8991f3b1a0ab43824ad850e4c292ad99fba0fcb121af0c7462864c08", func := "example.com/antlion/antlion/zzlaws_internal_artifact_b1.FnTraceScannerGivesEachWholeLine", spec := "fnTraceScannerGivesEachWholeLine", inPlace := ["internal/bytealg.IndexByte"], unfollowed := true, recurses := true, named := ["bufio.ErrFinalToken", "bufio.ErrTooLong", "bufio.ErrBadReadCount", "io.ErrNoProgress", "io.EOF", "bufio.ErrNegativeAdvance", "bufio.ErrAdvanceTooFar"], apart := false, laid := [("io.EOF", laid_io_EOF), ("io.ErrNoProgress", laid_io_ErrNoProgress), ("bufio.ErrTooLong", laid_bufio_ErrTooLong), ("bufio.ErrNegativeAdvance", laid_bufio_ErrNegativeAdvance), ("bufio.ErrAdvanceTooFar", laid_bufio_ErrAdvanceTooFar), ("bufio.ErrBadReadCount", laid_bufio_ErrBadReadCount), ("bufio.ErrFinalToken", laid_bufio_ErrFinalToken)] }
def FnTraceScannerGivesEachWholeLineSaid : Prop := fnTraceScannerGivesEachWholeLineRow.holds Tryd.pinned (OpenSpec.ofChange fnTraceScannerGivesEachWholeLineSpec)

/-- ITS FALSE NEIGHBOUR: 'it returns false'. Refute it at one input. -/
def fnTraceScannerGivesEachWholeLineWrong : ChangeSpec := { name := "fnTraceScannerGivesEachWholeLine", fn := fun _ => fun
  | [d1, d2] => { results := [.lit (.bool false)], args := [d1, d2] }
  | _ => none }
def FnTraceScannerGivesEachWholeLineWrongFalsely : Prop := fnTraceScannerGivesEachWholeLineRow.holds Tryd.pinned (OpenSpec.ofChange fnTraceScannerGivesEachWholeLineWrong)

/-- 'zzlaws_internal_artifact_b1.FnTraceScannerGreaterLimitLosesNoLine': WHATEVER THE INPUT: true; the input reads as it did. -/
def fnTraceScannerGreaterLimitLosesNoLineSpec : ChangeSpec := { name := "fnTraceScannerGreaterLimitLosesNoLine", fn := fun _ => fun
  | [d1, d2, d3] => { results := [.lit (.bool true)], args := [d1, d2, d3] }
  | _ => none }
def fnTraceScannerGreaterLimitLosesNoLineRow : OpenClaim := { program := "qxb6608719adoor", sum := "111fe20f8991f3b1a0ab43824ad850e4c292ad99fba0fcb121af0c7462864c08", func := "example.com/antlion/antlion/zzlaws_internal_artifact_b1.FnTraceScannerGreaterLimitLosesNoLine", spec := "fnTraceScannerGreaterLimitLosesNoLine", inPlace := ["internal/bytealg.IndexByte"], unfollowed := true, recurses := true, named := ["bufio.ErrFinalToken", "bufio.ErrTooLong", "bufio.ErrBadReadCount", "io.ErrNoProgress", "io.EOF", "bufio.ErrNegativeAdvance", "bufio.ErrAdvanceTooFar"], apart := false, laid := [("io.EOF", laid_io_EOF), ("io.ErrNoProgress", laid_io_ErrNoProgress), ("bufio.ErrTooLong", laid_bufio_ErrTooLong), ("bufio.ErrNegativeAdvance", laid_bufio_ErrNegativeAdvance), ("bufio.ErrAdvanceTooFar", laid_bufio_ErrAdvanceTooFar), ("bufio.ErrBadReadCount", laid_bufio_ErrBadReadCount), ("bufio.ErrFinalToken", laid_bufio_ErrFinalToken)] }
def FnTraceScannerGreaterLimitLosesNoLineSaid : Prop := fnTraceScannerGreaterLimitLosesNoLineRow.holds Tryd.pinned (OpenSpec.ofChange fnTraceScannerGreaterLimitLosesNoLineSpec)

/-- ITS FALSE NEIGHBOUR: 'it returns false'. Refute it at one input. -/
def fnTraceScannerGreaterLimitLosesNoLineWrong : ChangeSpec := { name := "fnTraceScannerGreaterLimitLosesNoLine", fn := fun _ => fun
  | [d1, d2, d3] => { results := [.lit (.bool false)], args := [d1, d2, d3] }
  | _ => none }
def FnTraceScannerGreaterLimitLosesNoLineWrongFalsely : Prop := fnTraceScannerGreaterLimitLosesNoLineRow.holds Tryd.pinned (OpenSpec.ofChange fnTraceScannerGreaterLimitLosesNoLineWrong)

/-- 'zzlaws_internal_artifact_b1.FnArgBytesJoinsAtEveryByteBoundary': WHATEVER THE INPUT: true; the input reads as it did. -/
def fnArgBytesJoinsAtEveryByteBoundarySpec : ChangeSpec := { name := "fnArgBytesJoinsAtEveryByteBoundary", fn := fun _ => fun
  | [d1, d2] => { results := [.lit (.bool true)], args := [d1, d2] }
  | _ => none }
def fnArgBytesJoinsAtEveryByteBoundaryRow : OpenClaim := { program := "qxb6608719adoor", sum := "111fe20f8991f3b1a0ab43824ad850e4c292ad99fba0fcb121af0c7462864c08", func := "example.com/antlion/antlion/zzlaws_internal_artifact_b1.FnArgBytesJoinsAtEveryByteBoundary", spec := "fnArgBytesJoinsAtEveryByteBoundary", named := ["encoding/hex.ErrLength"], apart := false, laid := [("encoding/hex.ErrLength", laid_encoding_hex_ErrLength)] }
def FnArgBytesJoinsAtEveryByteBoundarySaid : Prop := fnArgBytesJoinsAtEveryByteBoundaryRow.holds Tryd.pinned (OpenSpec.ofChange fnArgBytesJoinsAtEveryByteBoundarySpec)

/-- ITS FALSE NEIGHBOUR: 'it returns false'. Refute it at one input. -/
def fnArgBytesJoinsAtEveryByteBoundaryWrong : ChangeSpec := { name := "fnArgBytesJoinsAtEveryByteBoundary", fn := fun _ => fun
  | [d1, d2] => { results := [.lit (.bool false)], args := [d1, d2] }
  | _ => none }
def FnArgBytesJoinsAtEveryByteBoundaryWrongFalsely : Prop := fnArgBytesJoinsAtEveryByteBoundaryRow.holds Tryd.pinned (OpenSpec.ofChange fnArgBytesJoinsAtEveryByteBoundaryWrong)

/-- 'zzlaws_internal_artifact_b1.FnArgBytesOneDigitChanged': WHATEVER THE INPUT: true; the input reads as it did. -/
def fnArgBytesOneDigitChangedSpec : ChangeSpec := { name := "fnArgBytesOneDigitChanged", fn := fun _ => fun
  | [d1, d2, d3] => { results := [.lit (.bool true)], args := [d1, d2, d3] }
  | _ => none }
def fnArgBytesOneDigitChangedRow : OpenClaim := { program := "qxb6608719adoor", sum := "111fe20f8991f3b1a0ab43824ad850e4c292ad99fba0fcb121af0c7462864c08", func := "example.com/antlion/antlion/zzlaws_internal_artifact_b1.FnArgBytesOneDigitChanged", spec := "fnArgBytesOneDigitChanged", named := ["encoding/hex.ErrLength"], apart := false, laid := [("encoding/hex.ErrLength", laid_encoding_hex_ErrLength)] }
def FnArgBytesOneDigitChangedSaid : Prop := fnArgBytesOneDigitChangedRow.holds Tryd.pinned (OpenSpec.ofChange fnArgBytesOneDigitChangedSpec)

/-- ITS FALSE NEIGHBOUR: 'it returns false'. Refute it at one input. -/
def fnArgBytesOneDigitChangedWrong : ChangeSpec := { name := "fnArgBytesOneDigitChanged", fn := fun _ => fun
  | [d1, d2, d3] => { results := [.lit (.bool false)], args := [d1, d2, d3] }
  | _ => none }
def FnArgBytesOneDigitChangedWrongFalsely : Prop := fnArgBytesOneDigitChangedRow.holds Tryd.pinned (OpenSpec.ofChange fnArgBytesOneDigitChangedWrong)

end Rows
end Go.Proofs.Qxb6608719aDoor
