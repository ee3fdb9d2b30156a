/-
  DERIVED. GIVEN WITH THE SEED: THE CARDS: each row of Qxb6608719aDoorRows.lean that lists a variable, with what it lists TIED to the program's text (the seventh form; the later family's looks); each row that meets fmt, with fmt's text TOLD by the authors' own Lean function (tested against real Go, not proved from fmt's source: count such statements apart). THE CARD IS WHAT COUNTS. Prove the row's statement (the work); the ties are given (Qxb6608719aDoorTie.lean); close each card by the builder's one call (the guide's Derived/Test/ToyasCard.lean, 'card_holds'). Laid BY PROGRAM, IN A SANDBOX (cutbox-door.mjs). By AI agents, Wed Nov 11 2026. No macro, syntax, notation, axiom, sorry.
-/
import Derived.Test.Qxb6608719aDoorRows
import GoSem.ClaimSeven
namespace Go.Proofs.Qxb6608719aDoor
namespace Rows

/-- THE TIED CARD OF 'zzlaws_internal_artifact_b1.FnTraceScannerGivesEachWholeLine'. -/
def fnTraceScannerGivesEachWholeLineCard : Claim7 := { stood := { row := fnTraceScannerGivesEachWholeLineRow, standIns := [], harness := (true, "3e2b74622382160f342384e4e665ff96fd208786a2cdf46ff9ea3d069f380d31"), looks := true }, kinds := [], alts := [], laidByText := true, laidKinds := [.called, .called, .called, .called, .called, .called, .called], laidTests := true, laidLooks := .later }
def FnTraceScannerGivesEachWholeLineCardSaid : Prop := Claim7.holds Tryd.pinned (.plain (OpenSpec.ofChange fnTraceScannerGivesEachWholeLineSpec)) fnTraceScannerGivesEachWholeLineCard

/-- THE TIED CARD OF 'zzlaws_internal_artifact_b1.FnTraceScannerGreaterLimitLosesNoLine'. -/
def fnTraceScannerGreaterLimitLosesNoLineCard : Claim7 := { stood := { row := fnTraceScannerGreaterLimitLosesNoLineRow, standIns := [], harness := (true, "3e2b74622382160f342384e4e665ff96fd208786a2cdf46ff9ea3d069f380d31"), looks := true }, kinds := [], alts := [], laidByText := true, laidKinds := [.called, .called, .called, .called, .called, .called, .called], laidTests := true, laidLooks := .later }
def FnTraceScannerGreaterLimitLosesNoLineCardSaid : Prop := Claim7.holds Tryd.pinned (.plain (OpenSpec.ofChange fnTraceScannerGreaterLimitLosesNoLineSpec)) fnTraceScannerGreaterLimitLosesNoLineCard

/-- THE TIED CARD OF 'zzlaws_internal_artifact_b1.FnArgBytesJoinsAtEveryByteBoundary'. -/
def fnArgBytesJoinsAtEveryByteBoundaryCard : Claim7 := { stood := { row := fnArgBytesJoinsAtEveryByteBoundaryRow, standIns := [], harness := (true, "3e2b74622382160f342384e4e665ff96fd208786a2cdf46ff9ea3d069f380d31"), looks := true }, kinds := [], alts := [], laidByText := true, laidKinds := [.called], laidTests := true, laidLooks := .later }
def FnArgBytesJoinsAtEveryByteBoundaryCardSaid : Prop := Claim7.holds Tryd.pinned (.plain (OpenSpec.ofChange fnArgBytesJoinsAtEveryByteBoundarySpec)) fnArgBytesJoinsAtEveryByteBoundaryCard

/-- THE TIED CARD OF 'zzlaws_internal_artifact_b1.FnArgBytesOneDigitChanged'. -/
def fnArgBytesOneDigitChangedCard : Claim7 := { stood := { row := fnArgBytesOneDigitChangedRow, standIns := [], harness := (true, "3e2b74622382160f342384e4e665ff96fd208786a2cdf46ff9ea3d069f380d31"), looks := true }, kinds := [], alts := [], laidByText := true, laidKinds := [.called], laidTests := true, laidLooks := .later }
def FnArgBytesOneDigitChangedCardSaid : Prop := Claim7.holds Tryd.pinned (.plain (OpenSpec.ofChange fnArgBytesOneDigitChangedSpec)) fnArgBytesOneDigitChangedCard
end Rows
end Go.Proofs.Qxb6608719aDoor
