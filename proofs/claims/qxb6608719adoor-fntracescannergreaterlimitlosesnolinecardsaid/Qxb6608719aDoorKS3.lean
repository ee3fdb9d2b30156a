/-
  Scan's round, its third statement: the window is moved to the buffer's head.
-/
import Derived.Test.Qxb6608719aDoorKS1
namespace Go.Proofs.Qxb6608719aDoor.Sk
open Go.RowKit Go.Proofs.Qxb6608719aDoor.Sc

def cellsOf (l : List UInt8) : List Value := l.map (fun x => Value.int .u8 (x.toNat : Int))
theorem cellsOf_length (l : List UInt8) : (cellsOf l).length = l.length := by simp [cellsOf]

theorem copyRow (w : World) (ty : TypeId) (g bb a k dl dc sc : Nat) (l : List UInt8) (hl : l.length = k) (hr : RowAt w bb a l) (hk : k ≤ dl) (hc : ∀ j, j < k → (w.cell? ⟨g, j, none⟩).isSome = true) (hf : ∀ j, w.frozen? ⟨g, j, none⟩ = false) :
    (Builtin.copy_ #[31, 31] ty #[.slice (some ⟨g, 0, none⟩) dl dc, .slice (some ⟨bb, a, none⟩) k sc]).run Tryd.prog w = .ok (goInt k) (w.setCells g 0 (cellsOf l)) := by
  have hs1 : (Tryd.prog.info? 5).map (·.size) = some 1 := by kernel_rfl
  have hcl : (cellsOf l).length = k := (cellsOf_length l).trans hl
  have h := run_copy_cells (P := Tryd.prog) w 31 31 ty 5 g 0 dl dc ⟨bb, a, none⟩ k sc (cellsOf l) Tryd.underlying31 hs1 (by rw [hcl]; exact (Nat.min_eq_left hk).symm)
    (fun j v hj => by
      have hjl : j < l.length := by have := (List.getElem?_eq_some_iff.1 hj).1; rwa [cellsOf_length] at this
      have e : (⟨bb, a, none⟩ : Addr).add j = ⟨bb, a + j, none⟩ := by unfold Addr.add; split <;> simp_all
      rw [e, hr j hjl, ← hj]
      simp [cellsOf, List.getD, hjl])
    (fun j hj => by rw [Nat.zero_add]; exact hc j (by omega))
    (fun j _ => hf _)
    (fun v hv => by obtain ⟨x, _, rfl⟩ := List.mem_map.1 hv; rfl)
  rwa [hcl] at h

theorem rowSet (w : World) (g : Nat) (l : List UInt8) (hc : ∀ j, j < l.length → (w.cell? ⟨g, j, none⟩).isSome = true) : RowAt (w.setCells g 0 (cellsOf l)) g 0 l := by
  intro i hi
  rw [World.cell?_setCells_in g (cellsOf l) 0 w (fun j hj => by rw [Nat.zero_add]; exact hc j (by rwa [cellsOf_length] at hj)) i (by rwa [cellsOf_length])]
  simp [cellsOf, List.getD, hi]
theorem someSet (w : World) (g m : Nat) (l : List UInt8) (hc : ∀ j, j < m → (w.cell? ⟨g, j, none⟩).isSome = true) (hl : l.length ≤ m) : ∀ j, j < m → ((w.setCells g 0 (cellsOf l)).cell? ⟨g, j, none⟩).isSome = true := by
  intro j hj
  by_cases h : j < l.length
  · have := World.cell?_setCells_in g (cellsOf l) 0 w (fun j hj => by rw [Nat.zero_add]; exact hc j (by rw [cellsOf_length] at hj; omega)) j (by rwa [cellsOf_length])
    rw [Nat.zero_add] at this
    rw [this]; rfl
  · rw [World.cell?_setCells_out g (cellsOf l) 0 w ⟨g, j, none⟩ (fun _ _ => .inr (by rw [cellsOf_length]; show 0 + l.length ≤ j; omega))]
    exact hc j hj

/-- The state behind a shift. -/
theorem St.shift {E : Env} (hE : E.Ok) {bb m c st k P : Nat} {w : World} (h : St E bb m c st (st + k) P .nilIface w) (d d' : Nat) :
    St E bb m c 0 k P .nilIface ((((((w.drewN d).setCells bb 0 (cellsOf ((E.s.data.toList.drop c).take k)))).drewN d').setCell ⟨E.sb, 6, none⟩ (.int .i64 (k : Int))).setCell ⟨E.sb, 5, none⟩ (.int .i64 0)) := by
  have hle1 := h.le1
  have hle2 := h.le2
  have hle3 := h.le3
  rw [Nat.add_sub_cancel_left] at hle3
  have hlen := win_len E c k hle3
  have O1 : Only bb w (((w.drewN d).setCells bb 0 (cellsOf ((E.s.data.toList.drop c).take k))).drewN d') := (((Only.refl _ _).drewN d).trans (only_setCells bb _ 0 _)).drewN d'
  have hrow : RowAt (((w.drewN d).setCells bb 0 (cellsOf ((E.s.data.toList.drop c).take k))).drewN d') bb 0 ((E.s.data.toList.drop c).take k) := rowSet (w.drewN d) bb _ (fun j hj => h.cap j (by omega))
  have hcap : ∀ j, j < m → ((((w.drewN d).setCells bb 0 (cellsOf ((E.s.data.toList.drop c).take k))).drewN d').cell? ⟨bb, j, none⟩).isSome = true := someSet (w.drewN d) bb m _ h.cap (by omega)
  generalize ((w.drewN d).setCells bb 0 (cellsOf ((E.s.data.toList.drop c).take k))).drewN d' = w1 at O1 hrow hcap ⊢
  have O2 : Only E.sb w1 ((w1.setCell ⟨E.sb, 6, none⟩ (.int .i64 (k : Int))).setCell ⟨E.sb, 5, none⟩ (.int .i64 0)) := ((Only.refl _ _).setCell _ _).setCell _ _
  have hx : ∀ o v, w.cell? ⟨E.sb, o, none⟩ = some v → w1.cell? ⟨E.sb, o, none⟩ = some v := fun o v hv => by rw [O1.cell (p := ⟨E.sb, o, none⟩) (Ne.symm h.d5)]; exact hv
  have hy : ∀ o v, o ≠ 5 → o ≠ 6 → w.cell? ⟨E.sb, o, none⟩ = some v → ((w1.setCell ⟨E.sb, 6, none⟩ (.int .i64 (k : Int))).setCell ⟨E.sb, 5, none⟩ (.int .i64 0)).cell? ⟨E.sb, o, none⟩ = some v := fun o v h5 h6 hv => by
    rw [World.cell?_setCell_other _ _ _ _ (fun q => h5 (congrArg Addr.off q).symm), World.cell?_setCell_other _ _ _ _ (fun q => h6 (congrArg Addr.off q).symm)]; exact hx o v hv
  have hr : ∀ o v, w.cell? ⟨E.rb, o, none⟩ = some v → ((w1.setCell ⟨E.sb, 6, none⟩ (.int .i64 (k : Int))).setCell ⟨E.sb, 5, none⟩ (.int .i64 0)).cell? ⟨E.rb, o, none⟩ = some v := fun o v hv => by
    rw [O2.cell (p := ⟨E.rb, o, none⟩) hE.d1, O1.cell (p := ⟨E.rb, o, none⟩) (Ne.symm h.d4)]; exact hv
  have hf : ∀ a, ((w1.setCell ⟨E.sb, 6, none⟩ (.int .i64 (k : Int))).setCell ⟨E.sb, 5, none⟩ (.int .i64 0)).frozen? a = w.frozen? a := fun a => (O2.frozen a).trans (O1.frozen a)
  have hz := O2.size.trans O1.size
  exact
    { r0 := hr _ _ h.r0
      r1 := by have := hr _ _ h.r1; rwa [Nat.add_sub_cancel_left] at this
      r2 := hr _ _ h.r2, s0 := hy _ _ (by omega) (by omega) h.s0, s1 := hy _ _ (by omega) (by omega) h.s1, s2 := hy _ _ (by omega) (by omega) h.s2
      s3 := by obtain ⟨v, hv⟩ := h.s3; exact ⟨v, hy _ _ (by omega) (by omega) hv⟩
      s4 := hy _ _ (by omega) (by omega) h.s4
      s5 := World.cell?_setCell_same _ _ _ (by rw [World.cell?_setCell_other _ _ _ _ (by simp)]; exact hx _ _ h.s5)
      s6 := by rw [World.cell?_setCell_other _ _ _ _ (by simp)]; exact World.cell?_setCell_same _ _ _ (hx _ _ h.s6)
      s7 := hy _ _ (by omega) (by omega) h.s7
      s8 := by obtain ⟨v, hv⟩ := h.s8; exact ⟨v, hy _ _ (by omega) (by omega) hv⟩
      s9 := by obtain ⟨v, hv⟩ := h.s9; exact ⟨v, hy _ _ (by omega) (by omega) hv⟩
      s10 := hy _ _ (by omega) (by omega) h.s10
      g := by
        rw [O2.cell (p := ⟨4, 0, none⟩) hE.n2, O1.cell (p := ⟨4, 0, none⟩) (h.n4 hE)]; exact h.g
      fr := fun o => (hf _).trans (h.fr o), fs := fun o => (hf _).trans (h.fs o), ft := fun o => (hf _).trans (h.ft o), fb := fun o => (hf _).trans (h.fb o)
      scn := by obtain ⟨O', R, hs⟩ := h.scn; exact ⟨O', R, (hs.only O1 (Ne.symm h.d6)).only O2 (Ne.symm hE.d3)⟩
      row := by rw [Nat.sub_zero]; exact hrow.only O2 h.d5
      cap := fun j hj => by rw [O2.cell (p := ⟨bb, j, none⟩) h.d5]; exact hcap j hj
      le1 := Nat.zero_le _, le2 := by omega, lem := h.lem, pos := h.pos, mb := h.mb, le3 := by rw [Nat.sub_zero]; exact hle3
      d4 := h.d4, d5 := h.d5, d6 := h.d6, b4 := h.b4, kp := fun k hk => by rw [hz]; exact h.kp k hk
      lt1 := by rw [hz]; exact h.lt1
      lt2 := by rw [hz]; exact h.lt2
      lt3 := by rw [hz]; exact h.lt3
      lt4 := by rw [hz]; exact h.lt4 }

set_option maxRecDepth 100000 in
set_option maxHeartbeats 4000000 in
theorem s3_full (E : Env) (hE : E.Ok) (u : Nat → Value) (bb m c st k P : Nat) (w : World) (hS : St E bb m c st (st + k) P .nilIface w) (hst : 0 < st) (hk : 0 < k) (hem : st + k = m) (K : Act → World → Prop) (Q : Exit → Act → World → Prop)
    (hK : ∀ a' w', Fr (.pointer (some ⟨E.sb, 0, none⟩)) a' → Below E.base w w' → St E bb m c 0 k P .nilIface w' → K a' w') :
    Code.wp Tryd.prog (nth 2 (unblock ((Tryd.f27.body.bind firstLoop).getD .skip))) (Exit.then K Q) ⟨fr (.pointer (some ⟨E.sb, 0, none⟩)) u, []⟩ w := by
  have h4 := hS.s4
  have h5 := hS.s5
  have h6 := hS.s6
  have f5 := hS.fs 5
  have f6 := hS.fs 6
  have hle2 := hS.le2
  have hle3 := hS.le3
  have hmb := hS.mb
  rw [Nat.add_sub_cancel_left] at hle3
  have hlen : Hid (((E.s.data.toList.drop c).take k).length = k) := win_len E c k hle3
  have hcp : ∀ d, Hid ((Builtin.copy_ #[31, 31] 3 #[.slice (some ⟨bb, 0, none⟩) m m, .slice (some ⟨bb, st, none⟩) k (m - st)]).run Tryd.prog (w.drewN d) = .ok (goInt k) ((w.drewN d).setCells bb 0 (cellsOf ((E.s.data.toList.drop c).take k)))) := fun d => copyRow (w.drewN d) 3 bb bb st k m m (m - st) _ hlen.out (by have := hS.row; rwa [Nat.add_sub_cancel_left] at this) (by omega) (fun j hj => hS.cap j (by omega)) hS.fb
  have hO28 : ∀ d, Only bb w ((w.drewN d).setCells bb 0 (cellsOf ((E.s.data.toList.drop c).take k))) := fun d => ((Only.refl _ _).drewN d).trans (only_setCells bb _ 0 _)
  have hd5 := hS.d5
  have hb4 := hS.b4
  have HS := hid hS
  have HK := hid hK
  clear hS hK
  have g0 : (0 : Int) ≤ (st : Int) := by omega
  have g1 : (0 : Int) < (st : Int) := by omega
  have g2 : ((st : Int) + (k : Int) == (m : Int)) = true := beq_iff_eq.2 (by omega)
  have hem' := hid hem
  clear hem
  have g5 : (st : Int) ≤ (st : Int) + (k : Int) := by omega
  have g6 : (st : Int) + (k : Int) ≤ (m : Int) := by omega
  have hlk : ((st : Int) + (k : Int)).toNat - st = k := by omega
  have hne : ¬ m = st := by have := hem'.out; omega
  unfold fr
  conv => arg 2; whnf
  go_wp2
  go_quiet (fail)
  go_wp2
  have HC := hcp (nq + 1)
  have hO := hO28 (nq + 1)
  have j4 := (hO.cell (p := ⟨E.sb, 4, none⟩) (Ne.symm hd5)).trans h4
  have j5 := (hO.cell (p := ⟨E.sb, 5, none⟩) (Ne.symm hd5)).trans h5
  have j6 := (hO.cell (p := ⟨E.sb, 6, none⟩) (Ne.symm hd5)).trans h6
  have jf5 := (hO.frozen ⟨E.sb, 5, none⟩).trans f5
  have jf6 := (hO.frozen ⟨E.sb, 6, none⟩).trans f6
  have hsh := fun d' => hid (HS.out.shift hE (nq + 1) d')
  clear hcp hO28
  generalize hW : (w.drewN (nq + 1)).setCells bb 0 (cellsOf ((E.s.data.toList.drop c).take k)) = w28 at *
  have hW' := hid hW
  clear hW
  go_region_held3 (fun w' => w'.cell? ⟨E.sb, 4, none⟩ = some (.slice (some ⟨bb, 0, none⟩) m m) ∧ w'.cell? ⟨E.sb, 5, none⟩ = some (.int .i64 (st : Int)) ∧ w'.cell? ⟨E.sb, 6, none⟩ = some (.int .i64 ((st + k : Nat) : Int)))
    (first | exact ⟨h4, h5, h6⟩ | exact ⟨j4, j5, j6⟩)
    (refine step_copy_run rfl (.tmp 157) (.tmp 170) 31 31 rfl (.slice (some ⟨bb, 0, none⟩) m m) (.slice (some ⟨bb, st, none⟩) k (m - st)) rfl rfl HC.out ?_)
  clear h4 h5 h6 f5 f6
  go_wp2
  go_region
  all_goals
    go_wp2
    rw [show (st : Int) + (k : Int) - (st : Int) = (k : Int) by omega]
    exact HK.out _ _ ⟨rfl, rfl, rfl⟩ (belowN (below_set (below_set (onlyB hO hb4) E.sb 6 hE.b2 _) E.sb 5 hE.b2 _) 1) (hsh 1).out

end Go.Proofs.Qxb6608719aDoor.Sk
