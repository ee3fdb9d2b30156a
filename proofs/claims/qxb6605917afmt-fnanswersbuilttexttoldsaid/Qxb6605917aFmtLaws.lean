/-
  THE TWO LAWS: FnAnswersBuiltText (4), FnAnswersExact (3): the whole walks.
-/
import Derived.Test.Qxb6605917aFmtWalks2
import Derived.Test.Qxb6605917aFmtWalks4
namespace Go.Proofs.Qxb6605917aFmt.Wk
open Go.RowKit Go.Extern.Stop Go.Stop Go.Extern
open Go.Proofs.Qxb6605917aFmt

theorem belowTr {a b c : World} (h : Below a.heap.size a b) (k : Below b.heap.size b c) : Below a.heap.size a c := h.trans (k.mono h.size)

/-! ### FnAnswersExact -/
theorem ex_far (c : Int) (t m d : ByteArray) (w : World) (h : 1048576 < t.size + m.size + d.size) (h0 : t.size ≤ maxLen) (h1 : m.size ≤ maxLen) (h2 : d.size ≤ maxLen) :
    Calls Tryf.prog 3 #[.int .i64 c, .string t, .string m, .string d] w fun e w' => e = .returned (.bool true) ∧ Below w.heap.size w w' := by
  go_enter Tryf.func3, Tryf.ntmps3
  go_wp2_with (go_at_call 5; refine (bytes5_no _ _ _ _ _ h h0 h1 h2).mono ?_; rintro e w' ⟨rfl, rfl⟩)
  go_ret
  exact ⟨rfl, Below.refl _ _⟩

/-- a code that names no article: accepted -/
theorem ex_quiet (c : Int) (t m d : ByteArray) (w : World) (h : t.size + m.size + d.size ≤ 1048576) (hn : Plain.naming c = false) :
    Calls Tryf.prog 3 #[.int .i64 c, .string t, .string m, .string d] w fun e w' => e = .returned (.bool true) ∧ Below w.heap.size w w' := by
  go_enter Tryf.func3, Tryf.ntmps3
  go_wp2_with (first
    | (go_at_call 5; refine (bytes5 _ _ _ _ _ h).mono ?_; rintro e w' ⟨rfl, rfl⟩)
    | (go_at_call 6; refine (answering _ _).mono ?_; rintro e w' ⟨rfl, rfl⟩; rw [hn])
    | (go_at_call 9; refine (zz_nil _ _ _ _ _ (by omega) (.inl hn)).mono ?_; rintro e w' ⟨rfl, hb⟩))
  go_ret
  exact ⟨rfl, hb⟩

/-- an id that holds a space: refused -/
theorem ex_space (F : Interp) (c : Int) (t m d : ByteArray) (i : Nat) (w : World) (hF : F.answers w.tape) (h : t.size + m.size + d.size ≤ 1048576) (hn : Plain.naming c = true) (hi : Plain.SpAt d.data.toList i) :
    Calls Tryf.prog 3 #[.int .i64 c, .string t, .string m, .string d] w fun e w' => e = .returned (.bool true) ∧ Below w.heap.size w w' := by
  have hw : word t ≠ d := fun e => (word_noSp t).not (by rw [e]; exact hi)
  have HI := hid hi
  clear hi
  go_enter Tryf.func3, Tryf.ntmps3
  go_wp2_with (first
    | (go_at_call 5; refine (bytes5 _ _ _ _ _ h).mono ?_; rintro e w' ⟨rfl, rfl⟩)
    | (go_at_call 6; refine (answering _ _).mono ?_; rintro e w' ⟨rfl, rfl⟩; rw [hn])
    | (go_at_call 7; refine (has_at _ i _ (by omega) HI.out).mono ?_; rintro e w' ⟨rfl, rfl⟩)
    | (go_at_call 9; refine (zz_err F _ _ _ _ _ (by exact hF) hn (by omega) hw).mono ?_; rintro e w' ⟨⟨v, rfl⟩, hb⟩))
  go_ret
  exact ⟨rfl, hb⟩

/-- the text opens with the id: accepted -/
theorem ex_own (c : Int) (t m d : ByteArray) (w : World) (h : t.size + m.size + d.size ≤ 1048576) (hn : Plain.naming c = true) (hs : Plain.NoSp d.data.toList) (hw : word t = d) :
    Calls Tryf.prog 3 #[.int .i64 c, .string t, .string m, .string d] w fun e w' => e = .returned (.bool true) ∧ Below w.heap.size w w' := by
  have HS := hid hs
  clear hs
  go_enter Tryf.func3, Tryf.ntmps3
  go_wp2_with (first
    | (go_at_call 5; refine (bytes5 _ _ _ _ _ h).mono ?_; rintro e w' ⟨rfl, rfl⟩)
    | (go_at_call 6; refine (answering _ _).mono ?_; rintro e w' ⟨rfl, rfl⟩; rw [hn])
    | (go_at_call 7; refine (has_no _ _ (by omega) HS.out).mono ?_; rintro e w' ⟨rfl, rfl⟩)
    | (go_at_call 8; refine (opens _ _ _ (by omega) (by omega) HS.out).mono ?_; rintro e w1 ⟨rfl, hb1⟩; rw [decide_eq_true hw])
    | (go_at_call 9; refine (zz_nil _ _ _ _ _ (by omega) (.inr hw)).mono ?_; rintro e w' ⟨rfl, hb⟩))
  go_ret
  exact ⟨rfl, belowTr hb1 hb⟩

/-- the text does not: refused -/
theorem ex_other (F : Interp) (c : Int) (t m d : ByteArray) (w : World) (hF : F.answers w.tape) (h : t.size + m.size + d.size ≤ 1048576) (hn : Plain.naming c = true) (hs : Plain.NoSp d.data.toList) (hw : word t ≠ d) :
    Calls Tryf.prog 3 #[.int .i64 c, .string t, .string m, .string d] w fun e w' => e = .returned (.bool true) ∧ Below w.heap.size w w' := by
  have HS := hid hs
  clear hs
  go_enter Tryf.func3, Tryf.ntmps3
  go_wp2_with (first
    | (go_at_call 5; refine (bytes5 _ _ _ _ _ h).mono ?_; rintro e w' ⟨rfl, rfl⟩)
    | (go_at_call 6; refine (answering _ _).mono ?_; rintro e w' ⟨rfl, rfl⟩; rw [hn])
    | (go_at_call 7; refine (has_no _ _ (by omega) HS.out).mono ?_; rintro e w' ⟨rfl, rfl⟩)
    | (go_at_call 8; refine (opens _ _ _ (by omega) (by omega) HS.out).mono ?_; rintro e w1 ⟨rfl, hb1⟩; rw [decide_eq_false hw])
    | (go_at_call 9; refine (zz_err F _ _ _ _ _ (by rw [hb1.tape]; exact hF) hn (by omega) hw).mono ?_; rintro e w' ⟨⟨v, rfl⟩, hb⟩))
  go_ret
  exact ⟨rfl, belowTr hb1 hb⟩

theorem exact_all (F : Interp) (c : Int) (t m d : ByteArray) (w : World) (hF : F.answers w.tape) (h0 : t.size ≤ maxLen) (h1 : m.size ≤ maxLen) (h2 : d.size ≤ maxLen) :
    Calls Tryf.prog 3 #[.int .i64 c, .string t, .string m, .string d] w fun e w' => e = .returned (.bool true) ∧ Below w.heap.size w w' := by
  rcases Nat.lt_or_ge 1048576 (t.size + m.size + d.size) with g | g
  · exact ex_far c t m d w g h0 h1 h2
  cases hn : Plain.naming c with
  | false => exact ex_quiet c t m d w g hn
  | true =>
    rcases Plain.sp_cases d.data.toList with hs | ⟨i, hi⟩
    · by_cases hw : word t = d
      · exact ex_own c t m d w g hn hs hw
      · exact ex_other F c t m d w hF g hn hs hw
    · exact ex_space F c t m d i w hF g hn hi

end Go.Proofs.Qxb6605917aFmt.Wk
