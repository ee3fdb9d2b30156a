/-
  DERIVED. GIVEN WITH THE SEED: THE CARDS: each row of Qxb6605917aFmtRows.lean that lists a variable, with what it lists TIED to the program's text (the seventh form; the later family's looks); each row that meets fmt, with fmt's text TOLD by the authors' own Lean function (tested against real Go, not proved from fmt's source: count such statements apart). THE CARD IS WHAT COUNTS. Prove the row's statement (the work); the ties are given (Qxb6605917aFmtTie.lean); close each card by the builder's one call (the guide's Derived/Test/ToyasCard.lean, 'card_holds'). Laid BY PROGRAM, IN A SANDBOX (cutbox-door.mjs). By AI agents, Wed Nov 11 2026. No macro, syntax, notation, axiom, sorry.
-/
import Derived.Test.Qxb6605917aFmtRows
import GoSem.ClaimSeven
namespace Go.Proofs.Qxb6605917aFmt
namespace Rows

/-- THE TOLD CARD OF 'zzlaws_internal_feeds_b1.FnAnswersExact'. -/
def fnAnswersExactCard : Claim7 := { stood := { row := fnAnswersExactRow, standIns := [], harness := (true, "ef1fda05dc972336023037b3c76d187698bab02873e4668d80fd26ec6fa02d32"), looks := false }, told := true, goes := false }
def FnAnswersExactToldSaid : Prop := Claim7.holds Tryf.pinned (.plain (OpenSpec.ofChange fnAnswersExactSpec)) fnAnswersExactCard
/-- ITS FALSE NEIGHBOUR. Refute it at one input. -/
def FnAnswersExactToldWrongFalsely : Prop := Claim7.holds Tryf.pinned (.plain (OpenSpec.ofChange fnAnswersExactWrong)) fnAnswersExactCard

/-- THE TOLD CARD OF 'zzlaws_internal_feeds_b1.FnAnswersBuiltText'. -/
def fnAnswersBuiltTextCard : Claim7 := { stood := { row := fnAnswersBuiltTextRow, standIns := [], harness := (true, "ef1fda05dc972336023037b3c76d187698bab02873e4668d80fd26ec6fa02d32"), looks := false }, told := true, goes := false }
def FnAnswersBuiltTextToldSaid : Prop := Claim7.holds Tryf.pinned (.plain (OpenSpec.ofChange fnAnswersBuiltTextSpec)) fnAnswersBuiltTextCard
/-- ITS FALSE NEIGHBOUR. Refute it at one input. -/
def FnAnswersBuiltTextToldWrongFalsely : Prop := Claim7.holds Tryf.pinned (.plain (OpenSpec.ofChange fnAnswersBuiltTextWrong)) fnAnswersBuiltTextCard
end Rows
end Go.Proofs.Qxb6605917aFmt
