/-
  THE WALKS of (*strings.Reader).Read, (*bufio.Scanner).setErr, advance, Err, Bytes.
-/
import Derived.Test.Qxb6608719aDoorMake
import Derived.Deep.AppendSrc
import Derived.Deep.RegionHeld3
namespace Go.Proofs.Qxb6608719aDoor.Sc
open Go.RowKit

theorem only_setCells (b : Nat) : ∀ (vs : List Value) (o : Nat) (w : World), Only b w (w.setCells b o vs)
  | [], _, _ => Only.refl _ _
  | v :: vs, o, _ => ((Only.refl _ _).setCell o v).trans (only_setCells b vs (o + 1) _)

theorem copyStr (w : World) (ty : TypeId) (b o k c : Nat) (s : ByteArray) (hc : ∀ j, j < Nat.min s.size k → (w.cell? ⟨b, o + j, none⟩).isSome = true) (hf : ∀ j, w.frozen? ⟨b, j, none⟩ = false) :
    (Builtin.copy_ #[31, 9] ty #[.slice (some ⟨b, o, none⟩) k c, .string s]).run Tryd.prog w = .ok (goInt (Nat.min s.size k)) (w.setCells b o ((byteCells s).take (Nat.min s.size k))) := by
  obtain ⟨i0, hi, hz0, hz1, hz2⟩ := info_parts info5
  have hl : ((byteCells s).take (Nat.min s.size k)).length = Nat.min s.size k := by
    rw [List.length_take, byteCells_length]; exact Nat.min_eq_left (Nat.min_le_left _ _)
  have hst := run_storeCells_cells (P := Tryd.prog) b o ((byteCells s).take (Nat.min s.size k)) 0 w (by intro j hj; rw [Nat.add_zero]; exact hc j (by omega)) (fun j _ => hf _) (fun v hv => by
    obtain ⟨u, _, rfl⟩ := List.mem_map.1 (List.mem_of_mem_take hv); rfl)
  rw [Nat.add_zero] at hst
  unfold byteCells at hst ⊢
  simp [Builtin.copy_, run_underlying Tryd.underlying31, Builtin.lenOf, Builtin.firstCells, sizeOf, typeInfo, hi, hst]

/-- The builtin copy as one step of a region that draws, its run known. -/
theorem step_copy_run {P : Program} {ops : Array Oper} {o : Oper} {a : Act} {w w' : World} {K : Act → World → Prop} {Q : Exit → Act → World → Prop} {E : Prop} {v : Value}
    (hg : o.guard = none) (d s : Operand) (dT sT : TypeId) (hop : o.op = Op.call { callee := Callee.builtin Builtin.copy, args := #[d, s], argTypes := #[dT, sT] })
    (vd vs : Value) (hd : a.eval d = vd) (hs : a.eval s = vs) (hr : (Builtin.copy_ #[dT, sT] o.type #[vd, vs]).run P w = .ok v w')
    (hK : K (a.put o.dst v) w') : if Region.wanted o (yielded ops a.tmps) = true then Oper.wp P o a w K Q else E := by
  have hw : Region.wanted o (yielded ops a.tmps) = true := by simp [Region.wanted, hg]
  rw [if_pos hw]
  unfold Oper.wp
  simp only [execOp, hop, resolve, invoke, builtin, Sem.run_bind, Sem.run_pure, Result.andThen_ok, List.map_toArray, List.map_cons, List.map_nil, hd, hs, hr]
  exact hK

/-! ### Read -/
theorem read_eof (rb : Nat) (A : Option Addr) (k c : Nat) (s : ByteArray) (q : Nat) (et : TypeId) (pv : Value) (w : World) (h0 : w.cell? ⟨rb, 0, none⟩ = some (.string s)) (h1 : w.cell? ⟨rb, 1, none⟩ = some (.int .i64 q))
    (hq : (s.size : Int) ≤ (q : Int)) (hE : w.cell? ⟨4, 0, none⟩ = some (.iface et pv)) :
    Calls Tryd.prog 64 #[.pointer (some ⟨rb, 0, none⟩), .slice A k c] w fun e w' => e = .returned (.tuple #[.int .i64 0, .iface et pv]) ∧ ∃ n, w' = w.drewN n := by
  go_enter Tryd.func64, Tryd.ntmps64
  go_wp2
  go_quiet (fail)
  go_wp2
  go_quiet (fail)
  go_wp2
  go_ret2
  exact ⟨rfl, _, World.drewN_drewN _ _ _⟩

/-- What Read leaves. -/
structure Rd (s : ByteArray) (rb bb o q n : Nat) (w w' : World) : Prop where
  os : w'.os = w.os
  tape : w'.tape = w.tape
  output : w'.output = w.output
  size : w'.heap.size = w.heap.size
  frozen : ∀ a, w'.frozen? a = w.frozen? a
  block : ∀ k, k ≠ rb → k ≠ bb → w'.heap[k]? = w.heap[k]?
  r0 : w'.cell? ⟨rb, 0, none⟩ = some (.string s)
  r1 : w'.cell? ⟨rb, 1, none⟩ = some (.int .i64 ((q + n : Nat) : Int))
  r2 : w'.cell? ⟨rb, 2, none⟩ = some (.int .i64 (-1))
  row : ∀ j, j < n → w'.cell? ⟨bb, o + j, none⟩ = some (.int .u8 ((s.data.toList.getD (q + j) 0).toNat : Int))
  keep : ∀ j, (j < o ∨ o + n ≤ j) → w'.cell? ⟨bb, j, none⟩ = w.cell? ⟨bb, j, none⟩

theorem rd_of (s : ByteArray) (rb bb o q n : Nat) (w : World) (hne : rb ≠ bb) (hn : n ≤ s.size - q) (v1 v2 : Value) (h0 : w.cell? ⟨rb, 0, none⟩ = some (.string s)) (h1 : w.cell? ⟨rb, 1, none⟩ = some v1) (h2 : w.cell? ⟨rb, 2, none⟩ = some v2)
    (hc : ∀ j, j < n → (w.cell? ⟨bb, o + j, none⟩).isSome = true) (d : Nat) :
    Rd s rb bb o q n w (((((w.setCell ⟨rb, 2, none⟩ (.int .i64 (-1))).drewN d).setCells bb o ((byteCells (s.extract q s.size)).take n)).setCell ⟨rb, 1, none⟩ (.int .i64 ((q + n : Nat) : Int)))) := by
  have hlen : ((byteCells (s.extract q s.size)).take n).length = n := by
    rw [List.length_take, byteCells_length, ByteArray.size_extract, Nat.min_self]; exact Nat.min_eq_left hn
  have O1 : Only rb w ((w.setCell ⟨rb, 2, none⟩ (.int .i64 (-1))).drewN d) := ((Only.refl _ _).setCell _ _).drewN _
  have O2 := only_setCells bb ((byteCells (s.extract q s.size)).take n) o ((w.setCell ⟨rb, 2, none⟩ (.int .i64 (-1))).drewN d)
  have O3 := fun W => (Only.refl rb W).setCell 1 (.int .i64 ((q + n : Nat) : Int))
  have hin := World.cell?_setCells_in bb ((byteCells (s.extract q s.size)).take n) o ((w.setCell ⟨rb, 2, none⟩ (.int .i64 (-1))).drewN d)
    (fun j hj => by rw [O1.cell (p := ⟨bb, o + j, none⟩) (Ne.symm hne)]; exact hc j (by omega))
  have hout := fun (j : Nat) (hj : j < o ∨ o + n ≤ j) => World.cell?_setCells_out bb ((byteCells (s.extract q s.size)).take n) o ((w.setCell ⟨rb, 2, none⟩ (.int .i64 (-1))).drewN d) ⟨bb, j, none⟩ (fun _ _ => by rw [hlen]; exact hj)
  have c0 : ∀ i u, ((w.setCell ⟨rb, 2, none⟩ (.int .i64 (-1))).drewN d).cell? ⟨rb, i, none⟩ = some u → (((w.setCell ⟨rb, 2, none⟩ (.int .i64 (-1))).drewN d).setCells bb o ((byteCells (s.extract q s.size)).take n)).cell? ⟨rb, i, none⟩ = some u := fun i u h => by
    rw [O2.cell (p := ⟨rb, i, none⟩) hne]; exact h
  constructor
  case os => exact (O3 _).os.trans (O2.os.trans O1.os)
  case tape => exact (O3 _).tape.trans (O2.tape.trans O1.tape)
  case output => exact (O3 _).output.trans (O2.output.trans O1.output)
  case size => exact (O3 _).size.trans (O2.size.trans O1.size)
  case frozen => exact fun a => ((O3 _).frozen a).trans ((O2.frozen a).trans (O1.frozen a))
  case block => exact fun k h1 h2 => ((O3 _).block k h1).trans ((O2.block k h2).trans (O1.block k h1))
  case r0 =>
    rw [World.cell?_setCell_other _ _ _ _ (by simp)]
    exact c0 0 _ (by rw [World.cell?_drewN, World.cell?_setCell_other _ _ _ _ (by simp)]; exact h0)
  case r1 =>
    exact World.cell?_setCell_same _ _ _ (c0 1 v1 (by rw [World.cell?_drewN, World.cell?_setCell_other _ _ _ _ (by simp)]; exact h1))
  case r2 =>
    rw [World.cell?_setCell_other _ _ _ _ (by simp)]
    exact c0 2 _ (by rw [World.cell?_drewN]; exact World.cell?_setCell_same _ _ _ h2)
  case row =>
    intro j hj
    rw [World.cell?_setCell_other _ _ _ _ (fun e => hne (congrArg Addr.block e)), hin j (by omega)]
    have hq : q + j < s.data.toList.length := by show q + j < s.size; omega
    have e : (s.extract q s.size).data.toList = s.data.toList.drop q := by
      rw [Lib.extract_data]; exact List.take_of_length_le (by rw [List.length_drop]; exact Nat.le_refl _)
    simp only [byteCells, e, List.getElem_take, List.getElem_map, List.getElem_drop]
    rw [List.getD, List.getElem?_eq_getElem hq]; rfl
  case keep =>
    intro j hj
    rw [World.cell?_setCell_other _ _ _ _ (fun e => hne (congrArg Addr.block e)), hout j hj, O1.cell (p := ⟨bb, j, none⟩) (Ne.symm hne)]

set_option maxHeartbeats 1000000 in
theorem read_data (rb bb o k c : Nat) (s : ByteArray) (q : Nat) (w : World) (hne : rb ≠ bb) (hs : s.size ≤ 1048577) (h0 : w.cell? ⟨rb, 0, none⟩ = some (.string s)) (h1 : w.cell? ⟨rb, 1, none⟩ = some (.int .i64 q)) (h2 : w.cell? ⟨rb, 2, none⟩ = some (.int .i64 (-1)))
    (f0 : w.frozen? ⟨rb, 1, none⟩ = false) (f1 : w.frozen? ⟨rb, 2, none⟩ = false) (fb : ∀ j, w.frozen? ⟨bb, j, none⟩ = false)
    (hq : (q : Int) < (s.size : Int)) (hc : ∀ j, j < k → (w.cell? ⟨bb, o + j, none⟩).isSome = true) :
    Calls Tryd.prog 64 #[.pointer (some ⟨rb, 0, none⟩), .slice (some ⟨bb, o, none⟩) k c] w fun e w' => e = .returned (.tuple #[.int .i64 ((Nat.min (s.size - q) k : Nat) : Int), .nilIface]) ∧ Rd s rb bb o q (Nat.min (s.size - q) k) w w' := by
  have hes : (s.extract q s.size).size = s.size - q := by rw [ByteArray.size_extract, Nat.min_self]
  have hrd := fun d => rd_of s rb bb o q (Nat.min (s.size - q) k) w hne (Nat.min_le_left _ _) _ _ h0 h1 h2 (fun j hj => hc j (Nat.lt_of_lt_of_le hj (Nat.min_le_right _ _))) d
  have hcp : ∀ d, (Builtin.copy_ #[31, 9] 3 #[.slice (some ⟨bb, o, none⟩) k c, .string (s.extract q s.size)]).run Tryd.prog ((w.setCell ⟨rb, 2, none⟩ (.int .i64 (-1))).drewN d) =
      .ok (goInt (Nat.min (s.size - q) k)) (((w.setCell ⟨rb, 2, none⟩ (.int .i64 (-1))).drewN d).setCells bb o ((byteCells (s.extract q s.size)).take (Nat.min (s.size - q) k))) := fun d => by
    have := copyStr ((w.setCell ⟨rb, 2, none⟩ (.int .i64 (-1))).drewN d) 3 bb o k c (s.extract q s.size)
      (fun j hj => by
        rw [World.cell?_drewN, World.cell?_setCell_other _ _ _ _ (fun e => hne (congrArg Addr.block e))]
        exact hc j (Nat.lt_of_lt_of_le hj (Nat.min_le_right _ _)))
      (fun j => by rw [World.frozen?_drewN, World.frozen?_setCell]; exact fb j)
    rwa [hes] at this
  generalize hn : Nat.min (s.size - q) k = n at *
  have hn1 : n ≤ s.size - q := by rw [← hn]; exact Nat.min_le_left _ _
  have HRD : Hid _ := hrd
  have HCP : Hid _ := hcp
  clear hrd hcp hes hn
  have hql : q ≤ s.size := by omega
  have hqi : (q : Int) ≤ (s.size : Int) := by omega
  go_enter Tryd.func64, Tryd.ntmps64
  go_wp2
  go_quiet (fail)
  go_wp2
  have HC : Hid ((Builtin.copy_ #[31, 9] 3 #[.slice (some ⟨bb, o, none⟩) k c, .string (s.extract q s.size)]).run Tryd.prog ((w.drewN nq).setCell ⟨rb, 2, none⟩ (.int .i64 (-1))).drew =
      .ok (goInt n) ((((w.setCell ⟨rb, 2, none⟩ (.int .i64 (-1))).drewN (nq + 1)).setCells bb o ((byteCells (s.extract q s.size)).take n)))) := HCP.out (nq + 1)
  have hsc : ∀ W vs i, (World.setCells W bb o vs).cell? ⟨rb, i, none⟩ = W.cell? ⟨rb, i, none⟩ := fun W vs i => (only_setCells bb vs o W).cell (p := ⟨rb, i, none⟩) hne
  have hsf : ∀ W vs i, (World.setCells W bb o vs).frozen? ⟨rb, i, none⟩ = W.frozen? ⟨rb, i, none⟩ := fun W vs i => (only_setCells bb vs o W).frozen _
  have g0 : ((w.drewN nq).setCell ⟨rb, 2, none⟩ (.int .i64 (-1))).cell? ⟨rb, 0, none⟩ = some (.string s) := by rw [World.cell?_setCell_other _ _ _ _ (by simp)]; exact h0
  have g1 : ((w.drewN nq).setCell ⟨rb, 2, none⟩ (.int .i64 (-1))).cell? ⟨rb, 1, none⟩ = some (.int .i64 q) := by rw [World.cell?_setCell_other _ _ _ _ (by simp)]; exact h1
  go_region_held3 (fun w' => w'.cell? ⟨rb, 0, none⟩ = some (.string s) ∧ w'.cell? ⟨rb, 1, none⟩ = some (.int .i64 q)) (first | exact ⟨g0, g1⟩ | (simp only [hsc]; exact ⟨g0, g1⟩))
    (refine step_copy_run rfl (.tmp 20) (.tmp 29) 31 9 rfl (.slice (some ⟨bb, o, none⟩) k c) (.string (s.extract q s.size)) rfl rfl HC.out ?_)
  go_wp2_with fail
  go_ret2
  exact ⟨rfl, HRD.out _⟩
end Go.Proofs.Qxb6608719aDoor.Sc
