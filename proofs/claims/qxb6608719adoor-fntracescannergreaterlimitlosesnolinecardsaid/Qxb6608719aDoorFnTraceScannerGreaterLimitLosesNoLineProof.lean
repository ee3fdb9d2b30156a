/-
  THE PROOF OF 'Rows.FnTraceScannerGreaterLimitLosesNoLineCardSaid': the row lifted, then the tied card. Turned from the guide's worked examples (MapyProofs, MapyCard).
-/
import Derived.Test.Qxb6608719aDoorRows
import Derived.Test.Qxb6608719aDoorTie
import Derived.Test.Qxb6608719aDoorCards
import Derived.Test.Qxb6608719aDoorKLaid
import Derived.Test.Qxb6608719aDoorKGreater
import Derived.WalkKit
import Derived.ProofKit
import Derived.OpenShut
import Derived.ShutString
import Derived.ChangeOld
import Derived.Below
import Derived.LaidMore
import Derived.LaidLaws
import Derived.Stop.Joined
import Derived.SevenTiedAt
namespace Go.Proofs.Qxb6608719aDoor.fnTraceScannerGreaterLimitLosesNoLine
open Go.ChangeShapes Go.WideShapes Go.ChangeAt Go.RowKit
open Go.ChangeMaps (open_string shut_string)

theorem walk (a0 : ByteArray) (a1 a2 : Int) (pa : Addr) (w : World) (w0 : a0.size ≤ maxLen) (h4 : 4 < w.heap.size) (hg : w.cell? ⟨4, 0, none⟩ = some (Sc.EV pa)) :
    Calls Tryd.prog 4 #[.string a0, .int .i64 a1, .int .i64 a2] w fun e w' => e = .returned (.bool true) ∧ Below w.heap.size w w' := by
  rcases Nat.lt_or_ge 1048576 a0.size with g | g
  · exact Sk.far4 a0 a1 a2 w w0 g
  by_cases hL : a1 < 0 ∨ a2 < a1 ∨ 9223372036854775807 ≤ a2
  · exact Sk.out4 a0 a1 a2 w g hL
  · exact Sk.main4 a0 a1 a2 pa w g (by omega) (by omega) (by omega) h4 hg

set_option maxRecDepth 100000 in
theorem lifted (os : Os) (started : os.Started) (H : Type) (enc : TypeId × Value → H) :
    ReturnsInHanded {} Tryd.checked os 4 .any (fun w args => (Rows.fnTraceScannerGreaterLimitLosesNoLineSpec.pre enc Tryd.prog Tryd.f4 [] false w args ∧ laidMetH Tryd.prog Lk.listed w) ∧ sizedMet enc Tryd.prog Tryd.f4 (OpenSpec.ofChange Rows.fnTraceScannerGreaterLimitLosesNoLineSpec) false w args)
      (Rows.fnTraceScannerGreaterLimitLosesNoLineSpec.post enc Tryd.prog Tryd.f4 false true false false) := by
  refine returnsInHanded_of_change_and (C := Tryd.checked) (X := fun w _ => laidMetH Tryd.prog Lk.listed w) (fun _ _ _ hh h => h.of_heap hh) Lk.own started (by kernel_rfl) Tryd.func4
    (ChangeSpec.witness_shaped (enc := enc) (C := Tryd.checked) (os := os) (X := fun w _ => laidMetH Tryd.prog Lk.listed w) false (World.doorLaid Tryd.prog 400 os) #[.string ByteArray.empty, .int .i64 0, .int .i64 0] 8 rfl (World.shaped_of_RefB (by kernel_rfl) (by kernel_rfl)) (by kernel_rfl) (by kernel_rfl) (by kernel_rfl) (Lk.door_met os _)) ?_
  intro W base args ds gs before hval0 hW _ _ hL _
  have hval : ∀ (j : Nat) t v, Tryd.f4.params[j]? = some t → args[j]? = some v → Value.okWide Tryd.prog W .any base t v := hval0
  have hW' := hW
  obtain ⟨p, q, hA0, hV, rfl, hfz, hnd⟩ := hW
  have hA : DataW.TrodAll enc Tryd.prog W 0 (fun _ => true) true Tryd.f4.params.toList args.toList ds p := hA0
  rw [Tryd.params4] at hA hval
  obtain ⟨v0, vs0, d0, ds0, p0, q0, hargs, rfl, rfl, h0, r0⟩ := trodAll_cons hA
  obtain ⟨v1, vs1, d1, ds1, p1, q1, rfl, rfl, rfl, h1, r1⟩ := trodAll_cons r0
  obtain ⟨v2, vs2, d2, ds2, p2, q2, rfl, rfl, rfl, h2, r2⟩ := trodAll_cons r1
  obtain ⟨rfl, rfl, rfl⟩ := trodAll_nil r2
  obtain rfl : args = #[v0, v1, v2] := by cases args; simp_all
  obtain ⟨a0, rfl, rfl, rfl, w0⟩ := open_string Tryd.underlying9 (hval 0 9 v0 rfl rfl) h0
  obtain ⟨a1, rfl, rfl, rfl, w1⟩ := open_int Tryd.underlying3 (hval 1 3 v1 rfl rfl) h1
  obtain ⟨a2, rfl, rfl, rfl, w2⟩ := open_int Tryd.underlying3 (hval 2 3 v2 rfl rfl) h2
  obtain ⟨rfl, rfl⟩ := trodVars_none hV
  obtain ⟨pa, h4, hg⟩ := Lk.eof_of_laid hL
  clear hA0 hval0
  refine (walk a0 a1 a2 pa W w0 h4 hg).mono fun e W' ⟨he, bel⟩ => ?_
  subst he
  exact ⟨_, rfl, _, _, _, [], _, [], hW', trodAll_mk1 (shut_bool Tryd.underlying4 _), (trodAll_cons_mk (shut_string Tryd.underlying9 w0) (trodAll_cons_mk (shut_int Tryd.underlying3 w1) (trodAll_cons_mk (shut_int Tryd.underlying3 w2) trodAll_mk0))), rfl, bel.frame _, fun h => by cases h⟩

theorem over : Rows.FnTraceScannerGreaterLimitLosesNoLineSaid :=
  OpenClaim.holds_of_wide 4 Tryd.f4 rfl rfl rfl rfl rfl rfl rfl ⟨rfl, rfl, rfl, rfl, rfl⟩ rfl rfl rfl rfl rfl (by kernel_rfl) Tryd.func4 (by kernel_rfl)
    (of_decide_eq_true (by kernel_rfl)) (by unfold Func.isWrapper; first | (rw [if_pos (by decide +kernel)]; kernel_rfl) | (rw [if_neg (by decide +kernel)]; exact ⟨rfl, rfl⟩))
    (fun os started H enc _ => lifted os started H enc)

/-- ████ THE STATEMENT ████ -/
theorem proved : Rows.FnTraceScannerGreaterLimitLosesNoLineCardSaid :=
  Claim7.holds_tied_plain_at .later [] [.called, .called, .called, .called, .called, .called, .called] true (true, "3e2b74622382160f342384e4e665ff96fd208786a2cdf46ff9ea3d069f380d31") true
    over (fun _ h => by cases h) (by kernel_rfl) (fun _ h => by cases h) fnTraceScannerGreaterLimitLosesNoLine_row_tie rfl ⟨rfl, rfl⟩ (by kernel_rfl) rfl
    (fun f fn hf hfn => by
      obtain rfl : f = 4 := Option.some.inj ((show Tryd.prog.funcNamed Rows.fnTraceScannerGreaterLimitLosesNoLineRow.func = some 4 by kernel_rfl).symm.trans hf) |>.symm
      obtain rfl : fn = Tryd.f4 := (Option.some.inj (Tryd.func4.symm.trans hfn)).symm
      exact ⟨by kernel_rfl, fun j t ht => by
        rw [Tryd.params4] at ht
        have hm : t ∈ [9, 3, 3] := by simpa using Array.mem_of_getElem? ht
        have hall : ([9, 3, 3].all fun u => !Tryd.prog.wantsStandIn u) = true := by kernel_rfl
        exact (show Tryd.prog.wantsStandIn t = false by simpa using List.all_eq_true.1 hall t hm)⟩)
    (by kernel_rfl)
#print axioms proved
end Go.Proofs.Qxb6608719aDoor.fnTraceScannerGreaterLimitLosesNoLine
