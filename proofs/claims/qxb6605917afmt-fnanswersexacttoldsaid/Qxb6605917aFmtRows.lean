/-
  No cell of these rows narrows 'for every input' (looked for: loops, veiled, ifaces, maps, wideKeys, modest, calm, conditions, laid).
  DERIVED. THE GIVEN ROWS OF THIS SEAT. 2 by the template 'for every input the law returns true; each argument reads behind the call as it read before'; 0 by the template 'total and deterministic' (their statements: Qxb6605917aFmtTotals.lean).
  GIVEN WITH THE SEED: the statements are not yours to turn. If you find one false, say at which input.
  Laid BY PROGRAM, IN A SANDBOX (cutbox-rows.mjs): the forced cells as the released guide's own fill.sh prints them over the translation c61a13b47347630c… (all of the seat's roots in one cut). By AI agents, Wed Nov 11 2026. No macro, syntax, notation, axiom, sorry.
-/
import Derived.Test.Qxb6605917aFmtChecked
import GoSem.Claim
import GoSem.ClaimJoined
import GoSem.ClaimMapViews
import Derived.JoinedTies
import Derived.KernelRfl
namespace Go.Proofs.Qxb6605917aFmt
/- THE CELL 'sum', in the pinned program and in every row, IS THE sha256 OF THE DUMP (.gsa) THAT Qxb6605917aFmtProg.lean LOADS. Nothing in Lean hashes anything: it is a label: what it is worth is what the hold of that sum in a sandbox is worth. -/
noncomputable def Tryf.pinned : Pinned := { name := "qxb6605917afmt", sum := "c61a13b47347630c778ad20db808525efb6fc6283d74a31669aa3c5fa08c29f1", checked := Tryf.checked }
namespace Rows
def none {H : Type} : Left H := { results := [], args := [] }

/-- 'zzlaws_internal_feeds_b1.FnAnswersExact': WHATEVER THE INPUT: true; the input reads as it did. -/
def fnAnswersExactSpec : ChangeSpec := { name := "fnAnswersExact", fn := fun _ => fun
  | [d1, d2, d3, d4] => { results := [.lit (.bool true)], args := [d1, d2, d3, d4] }
  | _ => none }
def fnAnswersExactRow : OpenClaim := { program := "qxb6605917afmt", sum := "c61a13b47347630c778ad20db808525efb6fc6283d74a31669aa3c5fa08c29f1", func := "example.com/newsflood/newsflood/zzlaws_internal_feeds_b1.FnAnswersExact", spec := "fnAnswersExact", stops := ["fmt.errorf"], inPlace := ["internal/bytealg.IndexByteString", "internal/bytealg.IndexString", "fmt.errorf"], named := ["internal/bytealg.MaxLen"], apart := false }
/-- NO THEOREM (fmt's text is open here; it may be false): for the released tool's asking of the row's closed facts alone. THE STATEMENT IS 'FnAnswersExactToldSaid' (Qxb6605917aFmtCards.lean). -/
def FnAnswersExactFormAsk : Prop := fnAnswersExactRow.holds Tryf.pinned (OpenSpec.ofChange fnAnswersExactSpec)

/-- ITS FALSE NEIGHBOUR: 'it returns false'. Refute it at one input. -/
def fnAnswersExactWrong : ChangeSpec := { name := "fnAnswersExact", fn := fun _ => fun
  | [d1, d2, d3, d4] => { results := [.lit (.bool false)], args := [d1, d2, d3, d4] }
  | _ => none }
def FnAnswersExactWrongFormAsk : Prop := fnAnswersExactRow.holds Tryf.pinned (OpenSpec.ofChange fnAnswersExactWrong)

/-- 'zzlaws_internal_feeds_b1.FnAnswersBuiltText': WHATEVER THE INPUT: true; the input reads as it did. -/
def fnAnswersBuiltTextSpec : ChangeSpec := { name := "fnAnswersBuiltText", fn := fun _ => fun
  | [d1, d2, d3, d4] => { results := [.lit (.bool true)], args := [d1, d2, d3, d4] }
  | _ => none }
def fnAnswersBuiltTextRow : OpenClaim := { program := "qxb6605917afmt", sum := "c61a13b47347630c778ad20db808525efb6fc6283d74a31669aa3c5fa08c29f1", func := "example.com/newsflood/newsflood/zzlaws_internal_feeds_b1.FnAnswersBuiltText", spec := "fnAnswersBuiltText", stops := ["fmt.errorf"], inPlace := ["internal/bytealg.IndexByteString", "internal/bytealg.IndexString", "fmt.errorf"], named := ["internal/bytealg.MaxLen"], apart := false }
/-- NO THEOREM (fmt's text is open here; it may be false): for the released tool's asking of the row's closed facts alone. THE STATEMENT IS 'FnAnswersBuiltTextToldSaid' (Qxb6605917aFmtCards.lean). -/
def FnAnswersBuiltTextFormAsk : Prop := fnAnswersBuiltTextRow.holds Tryf.pinned (OpenSpec.ofChange fnAnswersBuiltTextSpec)

/-- ITS FALSE NEIGHBOUR: 'it returns false'. Refute it at one input. -/
def fnAnswersBuiltTextWrong : ChangeSpec := { name := "fnAnswersBuiltText", fn := fun _ => fun
  | [d1, d2, d3, d4] => { results := [.lit (.bool false)], args := [d1, d2, d3, d4] }
  | _ => none }
def FnAnswersBuiltTextWrongFormAsk : Prop := fnAnswersBuiltTextRow.holds Tryf.pinned (OpenSpec.ofChange fnAnswersBuiltTextWrong)

end Rows
end Go.Proofs.Qxb6605917aFmt
