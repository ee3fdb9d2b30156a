/-
  Scan's round, its second statement (is there an error?) and the third's ways without a shift.
-/
import Derived.Test.Qxb6608719aDoorKS1
namespace Go.Proofs.Qxb6608719aDoor.Sk
open Go.RowKit Go.Proofs.Qxb6608719aDoor.Sc

set_option maxRecDepth 100000 in
set_option maxHeartbeats 2000000 in
theorem s2_nil (E : Env) (u : Nat → Value) (bb m c st e P : Nat) (w : World) (hS : St E bb m c st e P .nilIface w) (K : Act → World → Prop) (Q : Exit → Act → World → Prop)
    (hK : ∀ a', Fr (.pointer (some ⟨E.sb, 0, none⟩)) a' → K a' w) :
    Code.wp Tryd.prog (nth 1 (unblock ((Tryd.f27.body.bind firstLoop).getD .skip))) (Exit.then K Q) ⟨fr (.pointer (some ⟨E.sb, 0, none⟩)) u, []⟩ w := by
  have h7 := hS.s7
  clear hS
  have HK := hid hK
  clear hK
  unfold fr
  conv => arg 2; whnf
  go_wp2
  exact HK.out _ ⟨rfl, rfl, rfl⟩

set_option maxRecDepth 100000 in
set_option maxHeartbeats 2000000 in
theorem s2_eof (E : Env) (u : Nat → Value) (bb m c st e P : Nat) (w : World) (hS : St E bb m c st e P (EV E.pa) w) (K : Act → World → Prop) (Q : Exit → Act → World → Prop)
    (hK : ∀ a' w', Fr (.pointer (some ⟨E.sb, 0, none⟩)) a' → a'.tmps[2]? = some (.bool false) → Only E.sb w w' → w'.cell? ⟨E.sb, 7, none⟩ = some (EV E.pa) → Q .ret a' w') :
    Code.wp Tryd.prog (nth 1 (unblock ((Tryd.f27.body.bind firstLoop).getD .skip))) (Exit.then K Q) ⟨fr (.pointer (some ⟨E.sb, 0, none⟩)) u, []⟩ w := by
  have h5 := hS.s5
  have h6 := hS.s6
  have h7 := hS.s7
  have f5 := hS.fs 5
  have f6 := hS.fs 6
  unfold EV at h7
  clear hS
  have HK := hid hK
  clear hK
  unfold fr
  conv => arg 2; whnf
  go_wp2
  refine HK.out _ _ ⟨rfl, rfl, rfl⟩ rfl (((Only.refl _ _).setCell 5 _).setCell 6 _) ?_
  rw [World.cell?_setCell_other _ _ _ _ (by simp), World.cell?_setCell_other _ _ _ _ (by simp)]
  exact h7

set_option maxRecDepth 100000 in
set_option maxHeartbeats 2000000 in
theorem s3_zero (E : Env) (u : Nat → Value) (bb m c e P : Nat) (w : World) (hS : St E bb m c 0 e P .nilIface w) (K : Act → World → Prop) (Q : Exit → Act → World → Prop)
    (hK : ∀ a' w', Fr (.pointer (some ⟨E.sb, 0, none⟩)) a' → (∃ n, w' = w.drewN n) → K a' w') :
    Code.wp Tryd.prog (nth 2 (unblock ((Tryd.f27.body.bind firstLoop).getD .skip))) (Exit.then K Q) ⟨fr (.pointer (some ⟨E.sb, 0, none⟩)) u, []⟩ w := by
  have h4 := hS.s4
  have h5 : w.cell? ⟨E.sb, 5, none⟩ = some (.int .i64 0) := hS.s5
  have h6 := hS.s6
  clear hS
  have HK := hid hK
  clear hK
  unfold fr
  conv => arg 2; whnf
  go_wp2
  go_quiet (fail)
  go_wp2
  exact HK.out _ _ ⟨rfl, rfl, rfl⟩ ⟨_, rfl⟩

set_option maxRecDepth 100000 in
set_option maxHeartbeats 2000000 in
theorem s3_no (E : Env) (u : Nat → Value) (bb m c st e P : Nat) (w : World) (hS : St E bb m c st e P .nilIface w) (hst : 0 < st) (hem : e ≠ m) (hh : st ≤ m / 2) (K : Act → World → Prop) (Q : Exit → Act → World → Prop)
    (hK : ∀ a' w', Fr (.pointer (some ⟨E.sb, 0, none⟩)) a' → (∃ n, w' = w.drewN n) → K a' w') :
    Code.wp Tryd.prog (nth 2 (unblock ((Tryd.f27.body.bind firstLoop).getD .skip))) (Exit.then K Q) ⟨fr (.pointer (some ⟨E.sb, 0, none⟩)) u, []⟩ w := by
  have h4 := hS.s4
  have h5 := hS.s5
  have h6 := hS.s6
  have hmb := hS.mb
  clear hS
  have g1 : (0 : Int) < (st : Int) := by omega
  have g2 : ((e : Int) == (m : Int)) = false := beq_eq_false_iff_ne.2 (by omega)
  have g3 : decide ((m : Int) / 2 < (st : Int)) = false := decide_eq_false (by omega)
  have HK := hid hK
  clear hK
  unfold fr
  conv => arg 2; whnf
  go_wp2
  go_quiet (fail)
  go_wp2
  exact HK.out _ _ ⟨rfl, rfl, rfl⟩ ⟨_, rfl⟩

end Go.Proofs.Qxb6608719aDoor.Sk
