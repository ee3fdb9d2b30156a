/-
  No cell of these rows narrows 'for every input' (looked for: loops, veiled, ifaces, maps, wideKeys, modest, calm, conditions, laid).
  DERIVED. THE GIVEN ROWS OF THIS SEAT. 1 by the template 'for every input the law returns true; each argument reads behind the call as it read before'; 0 by the template 'total and deterministic' (their statements: Qxb6608719aTotals.lean).
  GIVEN WITH THE SEED: the statements are not yours to turn. If you find one false, say at which input.
  Laid BY PROGRAM, IN A SANDBOX (cutbox-rows.mjs): the forced cells as the released guide's own fill.sh prints them over the translation 915a0dc76f4d4079… (all of the seat's roots in one cut). By AI agents, Wed Nov 11 2026. No macro, syntax, notation, axiom, sorry.
-/
import Derived.Test.Qxb6608719aChecked
import GoSem.Claim
import GoSem.ClaimJoined
import GoSem.ClaimMapViews
import Derived.JoinedTies
import Derived.KernelRfl
namespace Go.Proofs.Qxb6608719a
/- THE CELL 'sum', in the pinned program and in every row, IS THE sha256 OF THE DUMP (.gsa) THAT Qxb6608719aProg.lean LOADS. Nothing in Lean hashes anything: it is a label: what it is worth is what the hold of that sum in a sandbox is worth. -/
noncomputable def Try.pinned : Pinned := { name := "qxb6608719a", sum := "915a0dc76f4d407995329fb60c728df3fd521e0fffdee90084e8df4c5382efe2", checked := Try.checked }
namespace Rows
def none {H : Type} : Left H := { results := [], args := [] }

/-- 'zzlaws_internal_artifact_b1.FnScanWholeLinesPassesOverLongLine': WHATEVER THE INPUT: true; the input reads as it did. -/
def fnScanWholeLinesPassesOverLongLineSpec : ChangeSpec := { name := "fnScanWholeLinesPassesOverLongLine", fn := fun _ => fun
  | [d1, d2, d3] => { results := [.lit (.bool true)], args := [d1, d2, d3] }
  | _ => none }
def fnScanWholeLinesPassesOverLongLineRow : OpenClaim := { program := "qxb6608719a", sum := "915a0dc76f4d407995329fb60c728df3fd521e0fffdee90084e8df4c5382efe2", func := "example.com/antlion/antlion/zzlaws_internal_artifact_b1.FnScanWholeLinesPassesOverLongLine", spec := "fnScanWholeLinesPassesOverLongLine", inPlace := ["internal/bytealg.IndexByte"], apart := false }
def FnScanWholeLinesPassesOverLongLineSaid : Prop := fnScanWholeLinesPassesOverLongLineRow.holds Try.pinned (OpenSpec.ofChange fnScanWholeLinesPassesOverLongLineSpec)

/-- ITS FALSE NEIGHBOUR: 'it returns false'. Refute it at one input. -/
def fnScanWholeLinesPassesOverLongLineWrong : ChangeSpec := { name := "fnScanWholeLinesPassesOverLongLine", fn := fun _ => fun
  | [d1, d2, d3] => { results := [.lit (.bool false)], args := [d1, d2, d3] }
  | _ => none }
def FnScanWholeLinesPassesOverLongLineWrongFalsely : Prop := fnScanWholeLinesPassesOverLongLineRow.holds Try.pinned (OpenSpec.ofChange fnScanWholeLinesPassesOverLongLineWrong)

end Rows
end Go.Proofs.Qxb6608719a
