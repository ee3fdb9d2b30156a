/-
  Scan's round, its third statement: the window is moved to the buffer's head.
-/
import Derived.Test.Qxb6608719aDoorKS3
namespace Go.Proofs.Qxb6608719aDoor.Sk
open Go.RowKit Go.Proofs.Qxb6608719aDoor.Sc

set_option maxRecDepth 100000 in
set_option maxHeartbeats 4000000 in
theorem s3_half (E : Env) (hE : E.Ok) (u : Nat → Value) (bb m c st k P : Nat) (w : World) (hS : St E bb m c st (st + k) P .nilIface w) (hst : 0 < st) (hem : st + k ≠ m) (hh : m / 2 < st) (K : Act → World → Prop) (Q : Exit → Act → World → Prop)
    (hK : ∀ a' w', Fr (.pointer (some ⟨E.sb, 0, none⟩)) a' → Below E.base w w' → St E bb m c 0 k P .nilIface w' → K a' w') :
    Code.wp Tryd.prog (nth 2 (unblock ((Tryd.f27.body.bind firstLoop).getD .skip))) (Exit.then K Q) ⟨fr (.pointer (some ⟨E.sb, 0, none⟩)) u, []⟩ w := by
  have h4 := hS.s4
  have h5 := hS.s5
  have h6 := hS.s6
  have f5 := hS.fs 5
  have f6 := hS.fs 6
  have hle2 := hS.le2
  have hle3 := hS.le3
  have hmb := hS.mb
  rw [Nat.add_sub_cancel_left] at hle3
  have hlen : Hid (((E.s.data.toList.drop c).take k).length = k) := win_len E c k hle3
  have hcp : ∀ d, Hid ((Builtin.copy_ #[31, 31] 3 #[.slice (some ⟨bb, 0, none⟩) m m, .slice (some ⟨bb, st, none⟩) k (m - st)]).run Tryd.prog (w.drewN d) = .ok (goInt k) ((w.drewN d).setCells bb 0 (cellsOf ((E.s.data.toList.drop c).take k)))) := fun d => copyRow (w.drewN d) 3 bb bb st k m m (m - st) _ hlen.out (by have := hS.row; rwa [Nat.add_sub_cancel_left] at this) (by omega) (fun j hj => hS.cap j (by omega)) hS.fb
  have hO28 : ∀ d, Only bb w ((w.drewN d).setCells bb 0 (cellsOf ((E.s.data.toList.drop c).take k))) := fun d => ((Only.refl _ _).drewN d).trans (only_setCells bb _ 0 _)
  have hd5 := hS.d5
  have hb4 := hS.b4
  have HS := hid hS
  have HK := hid hK
  clear hS hK
  have g0 : (0 : Int) ≤ (st : Int) := by omega
  have g1 : (0 : Int) < (st : Int) := by omega
  have g2 : ((st : Int) + (k : Int) == (m : Int)) = false := beq_eq_false_iff_ne.2 (by omega)
  have g3 : (m : Int) / 2 < (st : Int) := by omega
  have g5 : (st : Int) ≤ (st : Int) + (k : Int) := by omega
  have g6 : (st : Int) + (k : Int) ≤ (m : Int) := by omega
  have hlk : ((st : Int) + (k : Int)).toNat - st = k := by omega
  have hne : ¬ m = st := by omega
  unfold fr
  conv => arg 2; whnf
  go_wp2
  go_quiet (fail)
  go_wp2
  have HC := hcp (nq + 1)
  have hO := hO28 (nq + 1)
  have j4 := (hO.cell (p := ⟨E.sb, 4, none⟩) (Ne.symm hd5)).trans h4
  have j5 := (hO.cell (p := ⟨E.sb, 5, none⟩) (Ne.symm hd5)).trans h5
  have j6 := (hO.cell (p := ⟨E.sb, 6, none⟩) (Ne.symm hd5)).trans h6
  have jf5 := (hO.frozen ⟨E.sb, 5, none⟩).trans f5
  have jf6 := (hO.frozen ⟨E.sb, 6, none⟩).trans f6
  have hsh := fun d' => hid (HS.out.shift hE (nq + 1) d')
  clear hcp hO28
  generalize hW : (w.drewN (nq + 1)).setCells bb 0 (cellsOf ((E.s.data.toList.drop c).take k)) = w28 at *
  have hW' := hid hW
  clear hW
  go_region_held3 (fun w' => w'.cell? ⟨E.sb, 4, none⟩ = some (.slice (some ⟨bb, 0, none⟩) m m) ∧ w'.cell? ⟨E.sb, 5, none⟩ = some (.int .i64 (st : Int)) ∧ w'.cell? ⟨E.sb, 6, none⟩ = some (.int .i64 ((st + k : Nat) : Int)))
    (first | exact ⟨h4, h5, h6⟩ | exact ⟨j4, j5, j6⟩)
    (refine step_copy_run rfl (.tmp 157) (.tmp 170) 31 31 rfl (.slice (some ⟨bb, 0, none⟩) m m) (.slice (some ⟨bb, st, none⟩) k (m - st)) rfl rfl HC.out ?_)
  clear h4 h5 h6 f5 f6
  go_wp2
  go_region
  all_goals
    go_wp2
    rw [show (st : Int) + (k : Int) - (st : Int) = (k : Int) by omega]
    exact HK.out _ _ ⟨rfl, rfl, rfl⟩ (belowN (below_set (below_set (onlyB hO hb4) E.sb 6 hE.b2 _) E.sb 5 hE.b2 _) 1) (hsh 1).out

end Go.Proofs.Qxb6608719aDoor.Sk
