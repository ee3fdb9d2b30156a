/-
  Scan's round, its third statement: the window is moved to the buffer's head.
-/
import Derived.Test.Qxb6608719aDoorKS3
namespace Go.Proofs.Qxb6608719aDoor.Sk
open Go.RowKit Go.Proofs.Qxb6608719aDoor.Sc

set_option maxRecDepth 100000 in
set_option maxHeartbeats 4000000 in
theorem s3_edge (E : Env) (hE : E.Ok) (u : Nat → Value) (bb c st P : Nat) (w : World) (hS : St E bb st c st st P .nilIface w) (hst : 0 < st) (K : Act → World → Prop) (Q : Exit → Act → World → Prop)
    (hK : ∀ a' w', Fr (.pointer (some ⟨E.sb, 0, none⟩)) a' → Below E.base w w' → St E bb st c 0 0 P .nilIface w' → K a' w') :
    Code.wp Tryd.prog (nth 2 (unblock ((Tryd.f27.body.bind firstLoop).getD .skip))) (Exit.then K Q) ⟨fr (.pointer (some ⟨E.sb, 0, none⟩)) u, []⟩ w := by
  have h4 := hS.s4
  have h5 := hS.s5
  have h6 := hS.s6
  have f5 := hS.fs 5
  have f6 := hS.fs 6
  have hle3 := hS.le3
  rw [Nat.sub_self, Nat.add_zero] at hle3
  have hlen : Hid (((E.s.data.toList.drop c).take 0).length = 0) := win_len E c 0 hle3
  have hcp : ∀ d, Hid ((Builtin.copy_ #[31, 31] 3 #[.slice (some ⟨bb, 0, none⟩) st st, .slice (some ⟨bb, 0, none⟩) 0 0]).run Tryd.prog (w.drewN d) = .ok (goInt 0) ((w.drewN d).setCells bb 0 (cellsOf ((E.s.data.toList.drop c).take 0)))) := fun d => copyRow (w.drewN d) 3 bb bb 0 0 st st 0 _ hlen.out (by rw [List.take_zero]; exact rowAt_nil _ _ _) (by omega) (fun j hj => hS.cap j (by omega)) hS.fb
  have hO28 : ∀ d, Only bb w ((w.drewN d).setCells bb 0 (cellsOf ((E.s.data.toList.drop c).take 0))) := fun d => ((Only.refl _ _).drewN d).trans (only_setCells bb _ 0 _)
  have hd5 := hS.d5
  have hb4 := hS.b4
  have HS := hid hS
  have HK := hid hK
  clear hS hK
  have g0 : (0 : Int) ≤ (st : Int) := by omega
  have g1 : (0 : Int) < (st : Int) := by omega
  have g2 : ((st : Int) == (st : Int)) = true := beq_self_eq_true _
  have hst0 : st - st = 0 := Nat.sub_self st
  unfold fr
  conv => arg 2; whnf
  go_wp2
  go_quiet (fail)
  go_wp2
  have HC := hcp (nq + 1)
  have hO := hO28 (nq + 1)
  have j4 := (hO.cell (p := ⟨E.sb, 4, none⟩) (Ne.symm hd5)).trans h4
  have j5 := (hO.cell (p := ⟨E.sb, 5, none⟩) (Ne.symm hd5)).trans h5
  have j6 := (hO.cell (p := ⟨E.sb, 6, none⟩) (Ne.symm hd5)).trans h6
  have jf5 := (hO.frozen ⟨E.sb, 5, none⟩).trans f5
  have jf6 := (hO.frozen ⟨E.sb, 6, none⟩).trans f6
  have hsh := fun d' => hid (St.shift (st := st) (k := 0) hE HS.out (nq + 1) d')
  clear hcp hO28
  generalize hW : (w.drewN (nq + 1)).setCells bb 0 (cellsOf ((E.s.data.toList.drop c).take 0)) = w28 at *
  have hW' := hid hW
  clear hW
  go_region_held3 (fun w' => w'.cell? ⟨E.sb, 4, none⟩ = some (.slice (some ⟨bb, 0, none⟩) st st) ∧ w'.cell? ⟨E.sb, 5, none⟩ = some (.int .i64 (st : Int)) ∧ w'.cell? ⟨E.sb, 6, none⟩ = some (.int .i64 (st : Int)))
    (first | exact ⟨h4, h5, h6⟩ | exact ⟨j4, j5, j6⟩)
    (refine step_copy_run rfl (.tmp 157) (.tmp 170) 31 31 rfl (.slice (some ⟨bb, 0, none⟩) st st) (.slice (some ⟨bb, 0, none⟩) 0 0) rfl rfl HC.out ?_)
  clear h4 h5 h6 f5 f6
  go_wp2
  go_region
  all_goals
    go_wp2
    exact HK.out _ _ ⟨rfl, rfl, rfl⟩ (belowN (below_set (below_set (onlyB hO hb4) E.sb 6 hE.b2 _) E.sb 5 hE.b2 _) 1) (hsh 1).out

end Go.Proofs.Qxb6608719aDoor.Sk
