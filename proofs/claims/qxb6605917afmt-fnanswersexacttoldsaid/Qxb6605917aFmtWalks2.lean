/-
  THE WALK of answers where it refuses: fmt.Errorf at the one format (functions 13, 15), whatever fmt answers.
-/
import Derived.Test.Qxb6605917aFmtWalks
import Derived.Test.Qxb6605917aFmtFacts
namespace Go.Proofs.Qxb6605917aFmt.Wk
open Go.RowKit Go.Extern.Stop Go.Stop Go.Extern
open Go.Proofs.Qxb6605917aFmt

abbrev fm : ByteArray := ⟨#[37, 115, 32, 37, 115, 32, 97, 110, 115, 119, 101, 114, 101, 100, 32, 102, 111, 114, 32, 97, 110, 111, 116, 104, 101, 114, 32, 97, 114, 116, 105, 99, 108, 101, 58, 32, 37, 100, 32, 37, 115]⟩

attribute [local go_sem] Ft.call15 Ft.guard Ft.fmt0 Ft.fmt0r Ft.op9_115 Ft.op9_115w Ft.strict9 Ft.op3_100 Ft.op3_100w Ft.strict3 Ft.ptr39 Ft.elem39 Ft.isError39' Ft.ptr37 Ft.elem37 Ft.isError37'

/-- fmt.Errorf at the one format: whatever fmt answers, a new error comes back. -/
theorem errorf13 (F : Interp) (x0 x1 x3 : ByteArray) (c : Int) (b : Nat) (w : World) (hF : F.answers w.tape)
    (h0 : w.cell? ⟨b, 0, none⟩ = some (.iface 9 (.string x0))) (h1 : w.cell? ⟨b, 1, none⟩ = some (.iface 9 (.string x1))) (h2 : w.cell? ⟨b, 2, none⟩ = some (.iface 3 (.int .i64 c))) (h3 : w.cell? ⟨b, 3, none⟩ = some (.iface 9 (.string x3))) :
    Calls Tryf.prog 13 #[.string fm, .slice (some ⟨b, 0, none⟩) 4 4] w fun e w' => (∃ v, e = .returned (.iface 39 (.pointer (some v)))) ∧ Below w.heap.size w w' := by
  have hF' := answers_open hF
  go_enter Tryf.func13, Tryf.ntmps13
  go_wp2
  go_ret
  exact ⟨⟨_, rfl⟩, ((Below.refl _ w).alloc (Nat.le_refl _) _).drew⟩

theorem fin {w w1 : World} {o o' : Obj} {n : Nat} (h : Below (((w.alloc o).drewN n).alloc o').heap.size (((w.alloc o).drewN n).alloc o') w1) : Below w.heap.size w w1 := by
  have h1 : Below w.heap.size w (((w.alloc o).drewN n).alloc o') := (belowN ((Below.refl _ w).alloc (Nat.le_refl _) o) n).alloc ((Below.refl w.heap.size w).alloc (Nat.le_refl _) o).size o'
  exact h1.trans (h.mono h1.size)

theorem at4 (w : World) (o : Obj) (n : Nat) (a0 a1 a2 a3 : Value) :
    (((w.alloc o).drewN n).alloc (.cells #[a0, a1, a2, a3] 20)).cell? ⟨w.heap.size + 1, 0, none⟩ = some a0 ∧ (((w.alloc o).drewN n).alloc (.cells #[a0, a1, a2, a3] 20)).cell? ⟨w.heap.size + 1, 1, none⟩ = some a1 ∧
    (((w.alloc o).drewN n).alloc (.cells #[a0, a1, a2, a3] 20)).cell? ⟨w.heap.size + 1, 2, none⟩ = some a2 ∧ (((w.alloc o).drewN n).alloc (.cells #[a0, a1, a2, a3] 20)).cell? ⟨w.heap.size + 1, 3, none⟩ = some a3 := by
  have e : ((w.alloc o).drewN n).heap.size = w.heap.size + 1 := Array.size_push ..
  exact ⟨World.cell?_alloc_at _ _ _ _ e.symm, World.cell?_alloc_at _ _ _ _ e.symm, World.cell?_alloc_at _ _ _ _ e.symm, World.cell?_alloc_at _ _ _ _ e.symm⟩

theorem ans_other (F : Interp) (c : Int) (t cmd d : ByteArray) (w : World) (hF : F.answers w.tape) (h : Plain.naming c = true) (hm : t.size ≤ 2097152) (hw : word t ≠ d) :
    Calls Tryf.prog 11 #[.agg #[.int .i64 c, .string t], .string cmd, .string d] w fun e w' => (∃ v, e = .returned (.iface 39 (.pointer (some v)))) ∧ Below w.heap.size w w' := by
  have hq : ((word t).toList == d.toList) = false := by
    rw [ByteArray.toList_eq, ByteArray.toList_eq]
    exact beq_eq_false_iff_ne.2 fun e => hw (Go.WideShapes.bytes_inj e)
  obtain rfl | rfl | rfl | rfl | rfl := naming_cases h
  · go_enter Tryf.func11, Tryf.ntmps11
    go_wp2_with (first
      | (go_at_call 12; refine (cut12 _ _ hm).mono ?_; rintro e w' ⟨r, b, rfl, n, rfl⟩)
      | (go_at_call 13; refine (errorf13 F cmd d t _ (w.heap.size + 1) _ (by exact hF) (at4 _ _ _ _ _ _ _).1 (at4 _ _ _ _ _ _ _).2.1 (at4 _ _ _ _ _ _ _).2.2.1 (at4 _ _ _ _ _ _ _).2.2.2).mono ?_; rintro e w' ⟨⟨v, rfl⟩, hb⟩))
    go_ret
    exact ⟨⟨_, rfl⟩, fin hb⟩
  · go_enter Tryf.func11, Tryf.ntmps11
    go_wp2_with (first
      | (go_at_call 12; refine (cut12 _ _ hm).mono ?_; rintro e w' ⟨r, b, rfl, n, rfl⟩)
      | (go_at_call 13; refine (errorf13 F cmd d t _ (w.heap.size + 1) _ (by exact hF) (at4 _ _ _ _ _ _ _).1 (at4 _ _ _ _ _ _ _).2.1 (at4 _ _ _ _ _ _ _).2.2.1 (at4 _ _ _ _ _ _ _).2.2.2).mono ?_; rintro e w' ⟨⟨v, rfl⟩, hb⟩))
    go_ret
    exact ⟨⟨_, rfl⟩, fin hb⟩
  · go_enter Tryf.func11, Tryf.ntmps11
    go_wp2_with (first
      | (go_at_call 12; refine (cut12 _ _ hm).mono ?_; rintro e w' ⟨r, b, rfl, n, rfl⟩)
      | (go_at_call 13; refine (errorf13 F cmd d t _ (w.heap.size + 1) _ (by exact hF) (at4 _ _ _ _ _ _ _).1 (at4 _ _ _ _ _ _ _).2.1 (at4 _ _ _ _ _ _ _).2.2.1 (at4 _ _ _ _ _ _ _).2.2.2).mono ?_; rintro e w' ⟨⟨v, rfl⟩, hb⟩))
    go_ret
    exact ⟨⟨_, rfl⟩, fin hb⟩
  · go_enter Tryf.func11, Tryf.ntmps11
    go_wp2_with (first
      | (go_at_call 12; refine (cut12 _ _ hm).mono ?_; rintro e w' ⟨r, b, rfl, n, rfl⟩)
      | (go_at_call 13; refine (errorf13 F cmd d t _ (w.heap.size + 1) _ (by exact hF) (at4 _ _ _ _ _ _ _).1 (at4 _ _ _ _ _ _ _).2.1 (at4 _ _ _ _ _ _ _).2.2.1 (at4 _ _ _ _ _ _ _).2.2.2).mono ?_; rintro e w' ⟨⟨v, rfl⟩, hb⟩))
    go_ret
    exact ⟨⟨_, rfl⟩, fin hb⟩
  · go_enter Tryf.func11, Tryf.ntmps11
    go_wp2_with (first
      | (go_at_call 12; refine (cut12 _ _ hm).mono ?_; rintro e w' ⟨r, b, rfl, n, rfl⟩)
      | (go_at_call 13; refine (errorf13 F cmd d t _ (w.heap.size + 1) _ (by exact hF) (at4 _ _ _ _ _ _ _).1 (at4 _ _ _ _ _ _ _).2.1 (at4 _ _ _ _ _ _ _).2.2.1 (at4 _ _ _ _ _ _ _).2.2.2).mono ?_; rintro e w' ⟨⟨v, rfl⟩, hb⟩))
    go_ret
    exact ⟨⟨_, rfl⟩, fin hb⟩

theorem zz_nil (c : Int) (t cmd d : ByteArray) (w : World) (hm : t.size ≤ 2097152) (h : Plain.naming c = false ∨ word t = d) :
    Calls Tryf.prog 9 #[.int .i64 c, .string t, .string cmd, .string d] w fun e w' => e = .returned .nilIface ∧ Below w.heap.size w w' := by
  have key : ∀ w1 : World, Calls Tryf.prog 11 #[.agg #[.int .i64 c, .string t], .string cmd, .string d] w1 fun e w' => e = .returned .nilIface ∧ Below w1.heap.size w1 w' := fun w1 => by
    cases hn : Plain.naming c with
    | false => exact ans_quiet c t cmd d w1 hn
    | true =>
      rcases h with h | h
      · rw [hn] at h; cases h
      · exact ans_own c t cmd d w1 hn hm h
  go_enter Tryf.func9, Tryf.ntmps9
  go_wp2_with (go_at_call 11; refine (key _).mono ?_; rintro e w' ⟨rfl, hb⟩)
  go_ret
  exact ⟨rfl, hb⟩

theorem zz_err (F : Interp) (c : Int) (t cmd d : ByteArray) (w : World) (hF : F.answers w.tape) (h : Plain.naming c = true) (hm : t.size ≤ 2097152) (hw : word t ≠ d) :
    Calls Tryf.prog 9 #[.int .i64 c, .string t, .string cmd, .string d] w fun e w' => (∃ v, e = .returned (.iface 39 (.pointer (some v)))) ∧ Below w.heap.size w w' := by
  go_enter Tryf.func9, Tryf.ntmps9
  go_wp2_with (go_at_call 11; refine (ans_other F _ _ _ _ _ (by exact hF) h hm hw).mono ?_; rintro e w' ⟨⟨v, rfl⟩, hb⟩)
  go_ret
  exact ⟨⟨_, rfl⟩, hb⟩

end Go.Proofs.Qxb6605917aFmt.Wk
