/-
  Scan's round, its first statement: a line.
-/
import Derived.Test.Qxb6608719aDoorKS1
namespace Go.Proofs.Qxb6608719aDoor.Sk
open Go.RowKit Go.Proofs.Qxb6608719aDoor.Sc

set_option maxRecDepth 100000 in
set_option maxHeartbeats 4000000 in
theorem s1_line (E : Env) (hE : E.Ok) (u : Nat → Value) (bb m c st k i : Nat) (w : World) (hS : St E bb m c st (st + k) 0 .nilIface w) (hk : i < k) (hno : Plain.NlAt ((E.s.data.toList.drop c).take k) i) (K : Act → World → Prop) (Q : Exit → Act → World → Prop)
    (hK : ∀ a' w', Fr (.pointer (some ⟨E.sb, 0, none⟩)) a' → a'.tmps[2]? = some (.bool true) → Below E.base w w' → St E bb m (c + (i + 1)) (st + (i + 1)) (st + k) 0 .nilIface w' → w'.cell? ⟨E.sb, 3, none⟩ = some (.slice (some ⟨bb, st, none⟩) i (m - st)) → RowAt w' bb st ((E.s.data.toList.drop c).take i) → w'.cell? ⟨E.tb, 3, none⟩ = some (.int .i64 0) → Q .ret a' w') :
    Code.wp Tryd.prog (nth 0 (unblock ((Tryd.f27.body.bind firstLoop).getD .skip))) (Exit.then K Q) ⟨fr (.pointer (some ⟨E.sb, 0, none⟩)) u, []⟩ w := by
  have h1 := hS.s1
  obtain ⟨v3, h3⟩ := hS.s3
  have h4 := hS.s4
  have h5 := hS.s5
  have h6 := hS.s6
  have h7 := hS.s7
  obtain ⟨v8, h8⟩ := hS.s8
  obtain ⟨O0, R0, hscn⟩ := hS.scn
  have hd3 := hE.d3
  have hsz := hE.size
  have hmb := hS.mb
  have hle2 := hS.le2
  have hle3 := hS.le3
  have hl0 := hE.l0
  rw [Nat.add_sub_cancel_left] at hle3
  have hlen : Hid (((E.s.data.toList.drop c).take k).length = k) := win_len E c k hle3
  have hrow : Hid (RowAt w bb st ((E.s.data.toList.drop c).take k)) := by have := hS.row; rwa [Nat.add_sub_cancel_left] at this
  have HS := hid hS
  have HSC := hid hscn
  have HK := hid hK
  clear hS hscn hK
  have hd : (st : Int) < (st : Int) + (k : Int) := by omega
  have HNO := hid hno
  clear hno
  have g1 : (0 : Int) ≤ (st : Int) := by omega
  have g2 : (st : Int) ≤ (st : Int) + (k : Int) := by omega
  have g3 : (st : Int) + (k : Int) ≤ (m : Int) := by omega
  have hlk : ((st : Int) + (k : Int)).toNat - st = k := by omega
  have hne : ¬ m = st := by omega
  have q0 := fun w' => run_neq_slice_nil_any (P := Tryd.prog) w' 31 5 (some ⟨bb, st, none⟩) i (m - st) 0 0 Tryd.underlying31
  unfold fr
  conv => arg 2; whnf
  go_wp2
  go_quiet (fail)
  go_wp2
  go_region_held3 (fun w' => w'.cell? ⟨E.sb, 1, none⟩ = some (.func (.func 34) #[.pointer (some ⟨E.tb, 0, none⟩)] #[]) ∧ w'.cell? ⟨E.sb, 4, none⟩ = some (.slice (some ⟨bb, 0, none⟩) m m) ∧ w'.cell? ⟨E.sb, 5, none⟩ = some (.int .i64 (st : Int)) ∧ w'.cell? ⟨E.sb, 6, none⟩ = some (.int .i64 ((st + k : Nat) : Int)) ∧ w'.cell? ⟨E.sb, 7, none⟩ = some .nilIface)
    (first | exact ⟨h1, h4, h5, h6, h7⟩ | exact ⟨(hO.cell (p := ⟨E.sb, 1, none⟩) hd3).trans h1, (hO.cell (p := ⟨E.sb, 4, none⟩) hd3).trans h4, (hO.cell (p := ⟨E.sb, 5, none⟩) hd3).trans h5, (hO.cell (p := ⟨E.sb, 6, none⟩) hd3).trans h6, (hO.cell (p := ⟨E.sb, 7, none⟩) hd3).trans h7⟩)
    (first | (go_at_call 34; (try rw [hlk]); refine (swl_line E.tb bb st k (m - st) i ((E.s.data.toList.drop c).take k) (.pointer (some ⟨E.sb, 0, none⟩)) E.L O0 R0 false _ hlen.out (by omega) (by omega) (by exact hrow.out) (by exact HSC.out.drewN _) HNO.out).mono ?_; rintro r w1 ⟨rfl, hO, hsc⟩))
  have hs2 : St E bb m c st (st + k) 0 .nilIface w1 := (HS.out.drewN _).tb hE hO ⟨_, _, hsc⟩
  have f5 := hs2.fs 5
  have f3 := hs2.fs 3
  have f8 := hs2.fs 8
  have k5 := hs2.s5
  have k6 := hs2.s6
  have k7 := hs2.s7
  obtain ⟨x3, k3⟩ := hs2.s3
  obtain ⟨x8, k8⟩ := hs2.s8
  have hbel : Below E.base w w1 := Below.trans (b := w.drewN _) ⟨rfl, rfl, rfl, Nat.le_refl _, fun _ _ _ => rfl⟩ (onlyB hO hE.b3)
  have HS2 := hid hs2
  clear hs2 h1 h3 h4 h5 h6 h7 h8
  go_wp2_with (go_at_call 36; refine (advance E.sb st (st + k) (i + 1) w1 k5 k6 f5 (by omega) (by omega) _ (by omega)).mono ?_; rintro r w2 ⟨rfl, k2, rfl⟩)
  refine HK.out _ _ ⟨rfl, rfl, rfl⟩ rfl (below_set (below_set (below_set (belowN hbel k2) E.sb 5 hE.b2 _) E.sb 3 hE.b2 _) E.sb 8 hE.b2 _) ((((HS2.out.drewN k2).set5 hE (i + 1) (by omega)).set3 hE _).set8 hE 0) ?_ ?_ ?_
  · rw [World.cell?_setCell_other _ _ _ _ (by simp)]
    exact World.cell?_setCell_same _ _ _ (by rw [World.cell?_setCell_other _ _ _ _ (by simp)]; exact k3)
  · have O3 : Only E.sb w1 ((((w1.drewN k2).setCell ⟨E.sb, 5, none⟩ (.int .i64 ((st + (i + 1) : Nat) : Int))).setCell ⟨E.sb, 3, none⟩ (.slice (some ⟨bb, st, none⟩) i (m - st))).setCell ⟨E.sb, 8, none⟩ (.int .i64 0)) := ((((Only.refl _ _).drewN k2).setCell 5 _).setCell 3 _).setCell 8 _
    have hr2 := (HS2.out.row.take i).only O3 HS2.out.d5
    rw [Nat.add_sub_cancel_left, List.take_take, Nat.min_eq_left (by omega)] at hr2
    exact hr2
  · rw [World.cell?_setCell_other _ _ _ _ (fun e => hd3 (congrArg Addr.block e)), World.cell?_setCell_other _ _ _ _ (fun e => hd3 (congrArg Addr.block e)), World.cell?_setCell_other _ _ _ _ (fun e => hd3 (congrArg Addr.block e))]
    exact hsc.c3

end Go.Proofs.Qxb6608719aDoor.Sk
