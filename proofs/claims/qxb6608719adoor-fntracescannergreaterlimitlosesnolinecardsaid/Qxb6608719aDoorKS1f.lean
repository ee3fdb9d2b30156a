/-
  Scan's round, its first statement: the tail at the end of the file, nothing in the window.
-/
import Derived.Test.Qxb6608719aDoorKS1
namespace Go.Proofs.Qxb6608719aDoor.Sk
open Go.RowKit Go.Proofs.Qxb6608719aDoor.Sc

set_option maxRecDepth 100000 in
set_option maxHeartbeats 4000000 in
theorem s1_tail0 (E : Env) (hE : E.Ok) (u : Nat → Value) (bb m c st P : Nat) (w : World) (hS : St E bb m c st st P (EV E.pa) w) (hk : ¬ m = st) (hP : P ≤ c) (K : Act → World → Prop) (Q : Exit → Act → World → Prop)
    (hK : ∀ a' w', Fr (.pointer (some ⟨E.sb, 0, none⟩)) a' → Below E.base w w' → St E bb m c st st P (EV E.pa) w' → w'.cell? ⟨E.tb, 4, none⟩ = some (.int .i64 (P : Int)) → K a' w') :
    Code.wp Tryd.prog (nth 0 (unblock ((Tryd.f27.body.bind firstLoop).getD .skip))) (Exit.then K Q) ⟨fr (.pointer (some ⟨E.sb, 0, none⟩)) u, []⟩ w := by
  have h1 := hS.s1
  obtain ⟨v3, h3⟩ := hS.s3
  have h4 := hS.s4
  have h5 := hS.s5
  have h6 := hS.s6
  have h7 := hS.s7
  obtain ⟨v8, h8⟩ := hS.s8
  obtain ⟨O0, R0, hscn⟩ := hS.scn
  have hd3 := hE.d3
  have hsz := hE.size
  have hmb := hS.mb
  have hle2 := hS.le2
  have hle3 := hS.le3
  have hl0 := hE.l0
  rw [Nat.sub_self, Nat.add_zero] at hle3
  have HS := hid hS
  have HSC := hid hscn
  have HK := hid hK
  clear hS hscn hK
  have hd : decide ((st : Int) < (st : Int)) = false := decide_eq_false (by omega)
  unfold EV at h7
  have g1 : (0 : Int) ≤ (st : Int) := by omega
  have g3 : (st : Int) ≤ (m : Int) := by omega
  have hst : st - st = 0 := Nat.sub_self st
  have q0 := fun w => run_neq_slice_nil_any (P := Tryd.prog) w 31 5 none 0 0 0 0 Tryd.underlying31
  unfold fr
  conv => arg 2; whnf
  go_wp2
  go_quiet (fail)
  go_wp2
  go_region_held3 (fun w' => w'.cell? ⟨E.sb, 1, none⟩ = some (.func (.func 34) #[.pointer (some ⟨E.tb, 0, none⟩)] #[]) ∧ w'.cell? ⟨E.sb, 4, none⟩ = some (.slice (some ⟨bb, 0, none⟩) m m) ∧ w'.cell? ⟨E.sb, 5, none⟩ = some (.int .i64 (st : Int)) ∧ w'.cell? ⟨E.sb, 6, none⟩ = some (.int .i64 (st : Int)) ∧ w'.cell? ⟨E.sb, 7, none⟩ = some (.iface 76 (.pointer (some E.pa))))
    (first | exact ⟨h1, h4, h5, h6, h7⟩ | exact ⟨(hO.cell (p := ⟨E.sb, 1, none⟩) hd3).trans h1, (hO.cell (p := ⟨E.sb, 4, none⟩) hd3).trans h4, (hO.cell (p := ⟨E.sb, 5, none⟩) hd3).trans h5, (hO.cell (p := ⟨E.sb, 6, none⟩) hd3).trans h6, (hO.cell (p := ⟨E.sb, 7, none⟩) hd3).trans h7⟩)
    (first | (go_at_call 34; refine (swl_tail E.tb bb st 0 (m - st) [] (.pointer (some ⟨E.sb, 0, none⟩)) E.L (P : Int) O0 R0 _ rfl (by omega) (by omega) (by omega) (rowAt_nil _ _ _) (by exact HSC.out.drewN _) Plain.noNl_nil).mono ?_; rintro r w1 ⟨rfl, hO, hsc⟩))
  have hs2 : St E bb m c st st P (EV E.pa) w1 := (HS.out.drewN _).tb hE hO ⟨_, _, hsc⟩
  have f5 := hs2.fs 5
  have f3 := hs2.fs 3
  have f8 := hs2.fs 8
  have k5 := hs2.s5
  have k6 := hs2.s6
  have k7 := hs2.s7
  obtain ⟨x3, k3⟩ := hs2.s3
  obtain ⟨x8, k8⟩ := hs2.s8
  have hbel : Below E.base w w1 := Below.trans (b := w.drewN _) ⟨rfl, rfl, rfl, Nat.le_refl _, fun _ _ _ => rfl⟩ (onlyB hO hE.b3)
  unfold EV at k7
  have HS2 := hid hs2
  clear hs2 h1 h3 h4 h5 h6 h7 h8
  go_wp2_with (go_at_call 36; refine (advance E.sb st st 0 w1 k5 k6 f5 (by omega) (by omega) _ rfl).mono ?_; rintro r w2 ⟨rfl, k2, rfl⟩)
  refine HK.out _ _ ⟨rfl, rfl, rfl⟩ (below_set (below_set (belowN hbel k2) E.sb 5 hE.b2 _) E.sb 3 hE.b2 _) ?_ ?_
  · exact ((HS2.out.drewN k2).set5 hE 0 (Nat.le_refl _)).set3 hE _
  · rw [World.cell?_setCell_other _ _ _ _ (fun e => hd3 (congrArg Addr.block e)), World.cell?_setCell_other _ _ _ _ (fun e => hd3 (congrArg Addr.block e))]
    have := hsc.c4
    rwa [Int.natCast_zero, Int.add_zero] at this

set_option maxRecDepth 100000 in
set_option maxHeartbeats 4000000 in
theorem s1_tail1 (E : Env) (hE : E.Ok) (u : Nat → Value) (bb c st P : Nat) (w : World) (hS : St E bb st c st st P (EV E.pa) w) (hP : P ≤ c) (K : Act → World → Prop) (Q : Exit → Act → World → Prop)
    (hK : ∀ a' w', Fr (.pointer (some ⟨E.sb, 0, none⟩)) a' → Below E.base w w' → St E bb st c st st P (EV E.pa) w' → w'.cell? ⟨E.tb, 4, none⟩ = some (.int .i64 (P : Int)) → K a' w') :
    Code.wp Tryd.prog (nth 0 (unblock ((Tryd.f27.body.bind firstLoop).getD .skip))) (Exit.then K Q) ⟨fr (.pointer (some ⟨E.sb, 0, none⟩)) u, []⟩ w := by
  have h1 := hS.s1
  obtain ⟨v3, h3⟩ := hS.s3
  have h4 := hS.s4
  have h5 := hS.s5
  have h6 := hS.s6
  have h7 := hS.s7
  obtain ⟨v8, h8⟩ := hS.s8
  obtain ⟨O0, R0, hscn⟩ := hS.scn
  have hd3 := hE.d3
  have hsz := hE.size
  have hmb := hS.mb
  have hle2 := hS.le2
  have hle3 := hS.le3
  have hl0 := hE.l0
  rw [Nat.sub_self, Nat.add_zero] at hle3
  have HS := hid hS
  have HSC := hid hscn
  have HK := hid hK
  clear hS hscn hK
  have hd : decide ((st : Int) < (st : Int)) = false := decide_eq_false (by omega)
  unfold EV at h7
  have g1 : (0 : Int) ≤ (st : Int) := by omega
  have hst : st - st = 0 := Nat.sub_self st
  have q0 := fun w => run_neq_slice_nil_any (P := Tryd.prog) w 31 5 none 0 0 0 0 Tryd.underlying31
  unfold fr
  conv => arg 2; whnf
  go_wp2
  go_quiet (fail)
  go_wp2
  go_region_held3 (fun w' => w'.cell? ⟨E.sb, 1, none⟩ = some (.func (.func 34) #[.pointer (some ⟨E.tb, 0, none⟩)] #[]) ∧ w'.cell? ⟨E.sb, 4, none⟩ = some (.slice (some ⟨bb, 0, none⟩) st st) ∧ w'.cell? ⟨E.sb, 5, none⟩ = some (.int .i64 (st : Int)) ∧ w'.cell? ⟨E.sb, 6, none⟩ = some (.int .i64 (st : Int)) ∧ w'.cell? ⟨E.sb, 7, none⟩ = some (.iface 76 (.pointer (some E.pa))))
    (first | exact ⟨h1, h4, h5, h6, h7⟩ | exact ⟨(hO.cell (p := ⟨E.sb, 1, none⟩) hd3).trans h1, (hO.cell (p := ⟨E.sb, 4, none⟩) hd3).trans h4, (hO.cell (p := ⟨E.sb, 5, none⟩) hd3).trans h5, (hO.cell (p := ⟨E.sb, 6, none⟩) hd3).trans h6, (hO.cell (p := ⟨E.sb, 7, none⟩) hd3).trans h7⟩)
    (first | (go_at_call 34; refine (swl_tail E.tb bb 0 0 0 [] (.pointer (some ⟨E.sb, 0, none⟩)) E.L (P : Int) O0 R0 _ rfl (by omega) (by omega) (by omega) (rowAt_nil _ _ _) (by exact HSC.out.drewN _) Plain.noNl_nil).mono ?_; rintro r w1 ⟨rfl, hO, hsc⟩))
  have hs2 : St E bb st c st st P (EV E.pa) w1 := (HS.out.drewN _).tb hE hO ⟨_, _, hsc⟩
  have f5 := hs2.fs 5
  have f3 := hs2.fs 3
  have f8 := hs2.fs 8
  have k5 := hs2.s5
  have k6 := hs2.s6
  have k7 := hs2.s7
  obtain ⟨x3, k3⟩ := hs2.s3
  obtain ⟨x8, k8⟩ := hs2.s8
  have hbel : Below E.base w w1 := Below.trans (b := w.drewN _) ⟨rfl, rfl, rfl, Nat.le_refl _, fun _ _ _ => rfl⟩ (onlyB hO hE.b3)
  unfold EV at k7
  have HS2 := hid hs2
  clear hs2 h1 h3 h4 h5 h6 h7 h8
  go_wp2_with (go_at_call 36; refine (advance E.sb st st 0 w1 k5 k6 f5 (by omega) (by omega) _ rfl).mono ?_; rintro r w2 ⟨rfl, k2, rfl⟩)
  refine HK.out _ _ ⟨rfl, rfl, rfl⟩ (below_set (below_set (belowN hbel k2) E.sb 5 hE.b2 _) E.sb 3 hE.b2 _) ?_ ?_
  · exact ((HS2.out.drewN k2).set5 hE 0 (Nat.le_refl _)).set3 hE _
  · rw [World.cell?_setCell_other _ _ _ _ (fun e => hd3 (congrArg Addr.block e)), World.cell?_setCell_other _ _ _ _ (fun e => hd3 (congrArg Addr.block e))]
    have := hsc.c4
    rwa [Int.natCast_zero, Int.add_zero] at this

end Go.Proofs.Qxb6608719aDoor.Sk
