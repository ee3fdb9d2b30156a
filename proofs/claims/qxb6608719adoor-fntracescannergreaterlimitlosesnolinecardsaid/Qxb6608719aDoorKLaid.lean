/-
  WHAT THE LISTED VARIABLES GIVE THE WALKS: io.EOF's cell; and that the door's own heap meets the listing. Turned from the guide's worked examples (MapyProofs, Sent6Proofs).
-/
import Derived.Test.Qxb6608719aDoorRows
import Derived.Test.Qxb6608719aDoorState
import Derived.ProofKit
import Derived.LaidMore
import Derived.LaidLaws
import Derived.MakeChecks
namespace Go.Proofs.Qxb6608719aDoor.Lk
open Go.ChangeShapes Go.WideShapes Go.ChangeAt Go.RowKit

theorem own : ownKnob Tryd.prog.godebug = none := by kernel_rfl
theorem laidOut : laidOutB Tryd.prog = true := by kernel_rfl
theorem gEof : Tryd.prog.globalNamed "io.EOF" = some 4 := by kernel_rfl
theorem tEof : (Tryd.prog.globals[4]?).map (·.type) = some 28 := by kernel_rfl

/-- The list that both rows carry. -/
abbrev listed : List (String × DataW Unit) := Rows.fnTraceScannerGreaterLimitLosesNoLineRow.laid

def ifaceName : DataW Unit → String
  | .iface n _ => n
  | _ => ""

theorem row76 (u : TypeId) (h : Tryd.prog.typeName? 3 u = some (ifaceName Rows.laid_io_EOF)) : u = 76 :=
  typeName_ptr_named (nm := "errors.errorString") (by kernel_rfl) (by kernel_rfl) (by decide) u (h.trans (by kernel_rfl))

/-- The door's own heap meets the condition. -/
theorem door_met (os : Os) (args : Array Value) : laidMetH Tryd.prog listed ((World.doorLaid Tryd.prog 400 os).forCall (fun _ _ => 0) ⟨#[], args, []⟩).memory :=
  laidMetH_of_parts3 (fuel := 8) (laidMet_of_run' 8 (by kernel_rfl) (by kernel_rfl)) (by kernel_rfl) (by kernel_rfl)

/-- io.EOF holds a pointer that was there. -/
theorem eof_of_laid {W : World} (h : laidMetH Tryd.prog listed W) : ∃ a : Addr, 4 < W.heap.size ∧ W.cell? ⟨4, 0, none⟩ = some (Sc.EV a) := by
  rw [MakeChecks.laidMetH_plain _ _ _ (by kernel_rfl)] at h
  obtain ⟨ps, ⟨g0, t0, cs0, f0, p0, q0, hg0, ht0, hv0, hd0, _, e0⟩, _, hrows⟩ := h
  obtain rfl := Option.some.inj (gEof.symm.trans hg0)
  obtain rfl := Option.some.inj (tEof.symm.trans ht0)
  subst e0
  obtain ⟨l0⟩ := cs0
  have ok0 : ∀ u v, l0 = [.iface u v] → Value.okWide Tryd.prog W .any 0 u v := fun u v e => by
    subst e
    exact (hrows 4 0 (by simp [MemPlace.row])).2 u v (by simpa using World.var?_cell hg0 hv0 0)
  obtain ⟨a, s, rfl, _, _, _, _⟩ := errorString_of_trod Tryd.underlying28 row76 Tryd.underlying76 Tryd.underlying96 rfl rfl Tryd.underlying9 (by kernel_rfl) (by kernel_rfl) hd0 ok0
  have hc : W.cell? ⟨4, 0, none⟩ = some (.iface 76 (.pointer (some a))) := by simpa using World.var?_cell hg0 hv0 0
  refine ⟨a, ?_, hc⟩
  rcases Nat.lt_or_ge 4 W.heap.size with h | h
  · exact h
  · simp [World.cell?, Array.getElem?_eq_none h] at hc

end Go.Proofs.Qxb6608719aDoor.Lk
