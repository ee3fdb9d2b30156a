/-
  Scan's round, its fourth statement: a full buffer grows.
-/
import Derived.Test.Qxb6608719aDoorKS4
namespace Go.Proofs.Qxb6608719aDoor.Sk
open Go.RowKit Go.Proofs.Qxb6608719aDoor.Sc

set_option maxRecDepth 100000 in
set_option maxHeartbeats 4000000 in
theorem s4_two (E : Env) (hE : E.Ok) (u : Nat → Value) (bb m c P : Nat) (w : World) (hS : St E bb m c 0 m P .nilIface w) (hL : (m : Int) < E.L + 1) (hx : ¬ E.L + 1 < (m : Int) * 2) (K : Act → World → Prop) (Q : Exit → Act → World → Prop)
    (hK : ∀ a' w' g m', Fr (.pointer (some ⟨E.sb, 0, none⟩)) a' → Below E.base w w' → m < m' → St E g m' c 0 m P .nilIface w' → K a' w') :
    Code.wp Tryd.prog (nth 3 (unblock ((Tryd.f27.body.bind firstLoop).getD .skip))) (Exit.then K Q) ⟨fr (.pointer (some ⟨E.sb, 0, none⟩)) u, []⟩ w := by
  have h2 := hS.s2
  have h4 := hS.s4
  have h5 : w.cell? ⟨E.sb, 5, none⟩ = some (.int .i64 0) := hS.s5
  have h6 := hS.s6
  have f4 := hS.fs 4
  have f5 := hS.fs 5
  have f6 := hS.fs 6
  have hpos := hS.pos
  have hmb := hS.mb
  have hsz := hE.size
  have hl1 := hE.l1
  have hle3 := hS.le3
  rw [Nat.sub_zero] at hle3
  have hlen : Hid (((E.s.data.toList.drop c).take m).length = m) := win_len E c m hle3
  obtain ⟨m', hm', hml, hmL, hmB, hmk⟩ : ∃ m' : Nat, Hid ((((m : Int) * 2) : Int) = (m' : Int)) ∧ m < m' ∧ (m' : Int) ≤ E.L + 1 ∧ m' ≤ 2097152 ∧ ∀ w, (Instr.makeSlice 31 (.int .i64 ((m : Int) * 2)) (.int .i64 ((m : Int) * 2))).run Tryd.prog w = .ok (.slice (some ⟨w.heap.size, 0, none⟩) m' m') (w.alloc (.cells (zeros m') 5)) :=
    ⟨(((m : Int) * 2)).toNat, (Int.toNat_of_nonneg (by omega)).symm, by omega, by omega, by omega, make0 ((m : Int) * 2) ((m : Int) * 2) (by omega) (Int.le_refl _) (by omega)⟩
  have hlt2 := hS.lt2
  have hlt4 := hS.lt4
  have hb4 := hS.b4
  have facts : ∀ d d', let w1 := (((w.drewN d).alloc (.cells (zeros m') 5)).drewN d').setCells w.heap.size 0 (cellsOf ((E.s.data.toList.drop c).take m))
      Hid ((Builtin.copy_ #[31, 31] 3 #[.slice (some ⟨w.heap.size, 0, none⟩) m' m', .slice (some ⟨bb, 0, none⟩) m m]).run Tryd.prog (((w.drewN d).alloc (.cells (zeros m') 5)).drewN d') = .ok (goInt m) w1) ∧
      Go.RowKit.Below w.heap.size w w1 ∧ w1.heap.size = w.heap.size + 1 ∧ (∀ a, w1.frozen? a = w.frozen? a) ∧ RowAt w1 w.heap.size 0 ((E.s.data.toList.drop c).take m) ∧ (∀ j, j < m' → (w1.cell? ⟨w.heap.size, j, none⟩).isSome = true) := by
    intro d d' w1
    have B0 : Go.RowKit.Below w.heap.size w (((w.drewN d).alloc (.cells (zeros m') 5)).drewN d') := newB w d d' _
    have hc0 : ∀ j, j < m' → ((((w.drewN d).alloc (.cells (zeros m') 5)).drewN d').cell? ⟨w.heap.size, j, none⟩).isSome = true := fun j hj => by
      have := cellZ (w.drewN d) m' j hj
      rw [World.cell?_drewN]
      rw [show (w.drewN d).heap.size = w.heap.size from rfl] at this
      rw [this]; rfl
    have hf0 : ∀ a, (((w.drewN d).alloc (.cells (zeros m') 5)).drewN d').frozen? a = w.frozen? a := fun a => frozen?_alloc_cells (w.drewN d) _ _ a
    have hr0 : RowAt (((w.drewN d).alloc (.cells (zeros m') 5)).drewN d') bb 0 ((E.s.data.toList.drop c).take m) := RowAt.below (by have := hS.row; rwa [Nat.sub_zero] at this) B0 hlt4
    have O1 := only_setCells w.heap.size (cellsOf ((E.s.data.toList.drop c).take m)) 0 (((w.drewN d).alloc (.cells (zeros m') 5)).drewN d')
    refine ⟨copyRow _ 3 w.heap.size bb 0 m m' m' m _ hlen.out hr0 (by omega) (fun j hj => hc0 j (by omega)) (fun j => by rw [hf0]; simp [World.frozen?]), B0.trans (O1.below (Nat.le_refl _)), ?_, fun a => (O1.frozen a).trans (hf0 a), ?_, ?_⟩
    · rw [O1.size, World.heap_drewN, World.size_alloc]; rfl
    · exact rowSet _ w.heap.size _ (fun j hj => hc0 j (by rw [hlen.out] at hj; omega))
    · exact someSet _ w.heap.size m' _ hc0 (by rw [hlen.out]; omega)
  have FA := hid facts
  have HS := hid hS
  have HK := hid hK
  clear hS hK facts
  have g2 : ((m : Int) == (m : Int)) = true := beq_self_eq_true _
  have g3 : ¬ E.L + 1 ≤ (m : Int) := by omega
  have g3' : decide (E.L + 1 ≤ (m : Int)) = false := decide_eq_false (by omega)
  have g4 : ¬ (4611686018427387903 : Int) < (m : Int) := by omega
  have g5 : ((m : Int) * 2 == 0) = false := beq_eq_false_iff_ne.2 (by omega)
  have g6 : (0 : Int) ≤ (m : Int) := by omega
  unfold fr
  conv => arg 2; whnf
  go_wp2
  go_quiet (fail)
  revert nq
  intro n1
  go_wp2
  go_quiet (fail)
  go_wp2
  obtain ⟨HC, B1, hz1, hf1, hrow1, hcap1⟩ := FA.out (n1 + nq) 1
  have hgr := fun d => hid (HS.out.grow hE m' hml hmL hmB B1 hz1 hf1 hrow1 hcap1 d)
  have i4 : ((w.drewN (n1 + nq)).alloc (.cells (zeros m') 5)).cell? ⟨E.sb, 4, none⟩ = some (.slice (some ⟨bb, 0, none⟩) m m) := by rw [World.cell?_alloc_lt _ _ _ hlt2]; exact h4
  have i5 : ((w.drewN (n1 + nq)).alloc (.cells (zeros m') 5)).cell? ⟨E.sb, 5, none⟩ = some (.int .i64 0) := by rw [World.cell?_alloc_lt _ _ _ hlt2]; exact h5
  have i6 : ((w.drewN (n1 + nq)).alloc (.cells (zeros m') 5)).cell? ⟨E.sb, 6, none⟩ = some (.int .i64 (m : Int)) := by rw [World.cell?_alloc_lt _ _ _ hlt2]; exact h6
  generalize hW : (((w.drewN (n1 + nq)).alloc (.cells (zeros m') 5)).drewN 1).setCells w.heap.size 0 (cellsOf ((E.s.data.toList.drop c).take m)) = w40 at *
  have hW' := hid hW
  clear hW
  have j4 := (B1.cell (p := ⟨E.sb, 4, none⟩) hlt2).trans h4
  have j5 := (B1.cell (p := ⟨E.sb, 5, none⟩) hlt2).trans h5
  have j6 := (B1.cell (p := ⟨E.sb, 6, none⟩) hlt2).trans h6
  have jf4 := (hf1 ⟨E.sb, 4, none⟩).trans f4
  have jf5 := (hf1 ⟨E.sb, 5, none⟩).trans f5
  have jf6 := (hf1 ⟨E.sb, 6, none⟩).trans f6
  go_region_held3 (fun w' => w'.cell? ⟨E.sb, 4, none⟩ = some (.slice (some ⟨bb, 0, none⟩) m m) ∧ w'.cell? ⟨E.sb, 5, none⟩ = some (.int .i64 0) ∧ w'.cell? ⟨E.sb, 6, none⟩ = some (.int .i64 (m : Int)))
    (first | exact ⟨i4, i5, i6⟩ | exact ⟨j4, j5, j6⟩)
    (refine step_copy_run rfl (.tmp 233) (.tmp 246) 31 31 rfl (.slice (some ⟨w.heap.size, 0, none⟩) m' m') (.slice (some ⟨bb, 0, none⟩) m m) rfl rfl HC.out ?_)
  clear h2 h4 h5 h6 f4 f5 f6 i4 i5 i6 hf1 hrow1 hcap1
  go_wp2
  go_region
  all_goals
    go_wp2
    exact HK.out _ _ w.heap.size m' ⟨rfl, rfl, rfl⟩ (belowN (below_set (below_set (below_set (ofBelow B1) E.sb 4 hE.b2 _) E.sb 6 hE.b2 _) E.sb 5 hE.b2 _) 1) hml (hgr 1).out

end Go.Proofs.Qxb6608719aDoor.Sk
