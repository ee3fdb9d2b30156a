/-
  FnAnswersBuiltText (4): the whole walk.
-/
import Derived.Test.Qxb6605917aFmtLaws
namespace Go.Proofs.Qxb6605917aFmt.Wk
open Go.RowKit Go.Extern.Stop Go.Stop Go.Extern
open Go.Proofs.Qxb6605917aFmt

abbrev ex : ByteArray := ⟨#[120]⟩

theorem app_list (a b : ByteArray) : (a ++ b).data.toList = a.data.toList ++ b.data.toList := by rw [ByteArray.data_append, Array.toList_append]
theorem app_size (a b : ByteArray) : (a ++ b).size = a.size + b.size := ByteArray.size_append
theorem word_own (d r : ByteArray) (hs : Plain.NoSp d.data.toList) : word (d ++ sp ++ r) = d := by
  have e : (d ++ sp ++ r).data.toList = d.data.toList ++ 32 :: r.data.toList := by rw [app_list, app_list]; simp
  have h : Plain.SpAt (d ++ sp ++ r).data.toList d.data.toList.length := by rw [e]; exact Plain.spAt_append hs
  rw [word_at h]
  refine Go.WideShapes.bytes_inj ?_
  rw [head_list, e, List.take_append_of_le_length (Nat.le_refl _), List.take_length]
theorem noSp_ex (d : ByteArray) (hs : Plain.NoSp d.data.toList) : Plain.NoSp (ex ++ d).data.toList := by
  rw [app_list]
  exact hs.cons (by decide)
theorem word_oth (d r : ByteArray) (hs : Plain.NoSp d.data.toList) : word (ex ++ d ++ sp ++ r) ≠ d := by
  rw [word_own (ex ++ d) r (noSp_ex d hs)]
  intro e
  have h1 := app_size ex d
  rw [e] at h1
  have h2 : ex.size = 1 := rfl
  omega
theorem sp_size : sp.size = 1 := rfl
theorem ex_size : ex.size = 1 := rfl

theorem bt_far (c : Int) (m d r : ByteArray) (w : World) (h : 1048576 < m.size + d.size + r.size) (h0 : m.size ≤ maxLen) (h1 : d.size ≤ maxLen) (h2 : r.size ≤ maxLen) :
    Calls Tryf.prog 4 #[.int .i64 c, .string m, .string d, .string r] w fun e w' => e = .returned (.bool true) ∧ Below w.heap.size w w' := by
  go_enter Tryf.func4, Tryf.ntmps4
  go_wp2_with (go_at_call 10; refine (bytes10_no _ _ _ _ _ h h0 h1 h2).mono ?_; rintro e w' ⟨rfl, rfl⟩)
  go_ret
  exact ⟨rfl, Below.refl _ _⟩

theorem bt_space (c : Int) (m d r : ByteArray) (i : Nat) (w : World) (h : m.size + d.size + r.size ≤ 1048576) (hi : Plain.SpAt d.data.toList i) :
    Calls Tryf.prog 4 #[.int .i64 c, .string m, .string d, .string r] w fun e w' => e = .returned (.bool true) ∧ Below w.heap.size w w' := by
  have HI := hid hi
  clear hi
  go_enter Tryf.func4, Tryf.ntmps4
  go_wp2_with (first
    | (go_at_call 10; refine (bytes10 _ _ _ _ _ h).mono ?_; rintro e w' ⟨rfl, rfl⟩)
    | (go_at_call 7; refine (has_at _ i _ (by omega) HI.out).mono ?_; rintro e w' ⟨rfl, rfl⟩))
  go_ret
  exact ⟨rfl, Below.refl _ _⟩

set_option maxHeartbeats 1000000 in
/-- a code that names no article -/
theorem bt_quiet (c : Int) (m d r : ByteArray) (w : World) (h : m.size + d.size + r.size ≤ 1048576) (hn : Plain.naming c = false) (hs : Plain.NoSp d.data.toList) :
    Calls Tryf.prog 4 #[.int .i64 c, .string m, .string d, .string r] w fun e w' => e = .returned (.bool true) ∧ Below w.heap.size w w' := by
  have HS := hid hs
  clear hs
  have s1 : (d ++ sp ++ r).size ≤ 2097152 := by rw [app_size, app_size, sp_size]; omega
  have s2 : (ex ++ d ++ sp ++ r).size ≤ 2097152 := by rw [app_size, app_size, app_size, sp_size, ex_size]; omega
  have S1 := hid s1
  have S2 := hid s2
  clear s1 s2
  go_enter Tryf.func4, Tryf.ntmps4
  go_wp2_with (first
    | (go_at_call 10; refine (bytes10 _ _ _ _ _ h).mono ?_; rintro e w' ⟨rfl, rfl⟩)
    | (go_at_call 7; refine (has_no _ _ (by omega) HS.out).mono ?_; rintro e w' ⟨rfl, rfl⟩)
    | (go_at_call 6; refine (answering _ _).mono ?_; rintro e w' ⟨rfl, rfl⟩; rw [hn])
    | (go_at_call 9; with_reducible refine (zz_nil c (d ++ sp ++ r) m d _ S1.out (.inl hn)).mono ?_; rintro e w1 ⟨rfl, hb1⟩)
    | (go_at_call 9; with_reducible refine (zz_nil c d m d _ (by omega) (.inl hn)).mono ?_; rintro e w2 ⟨rfl, hb2⟩)
    | (go_at_call 9; with_reducible refine (zz_nil c (ex ++ d ++ sp ++ r) m d _ S2.out (.inl hn)).mono ?_; rintro e w3 ⟨rfl, hb3⟩))
  go_ret
  exact ⟨rfl, belowTr (belowTr hb1 hb2) hb3⟩

set_option maxHeartbeats 1000000 in
/-- a code that names one -/
theorem bt_named (F : Interp) (c : Int) (m d r : ByteArray) (w : World) (hF : F.answers w.tape) (h : m.size + d.size + r.size ≤ 1048576) (hn : Plain.naming c = true) (hs : Plain.NoSp d.data.toList) :
    Calls Tryf.prog 4 #[.int .i64 c, .string m, .string d, .string r] w fun e w' => e = .returned (.bool true) ∧ Below w.heap.size w w' := by
  have HS := hid hs
  clear hs
  have s1 : (d ++ sp ++ r).size ≤ 2097152 := by rw [app_size, app_size, sp_size]; omega
  have s2 : (ex ++ d ++ sp ++ r).size ≤ 2097152 := by rw [app_size, app_size, app_size, sp_size, ex_size]; omega
  have S1 := hid s1
  have S2 := hid s2
  clear s1 s2
  go_enter Tryf.func4, Tryf.ntmps4
  go_wp2_with (first
    | (go_at_call 10; refine (bytes10 _ _ _ _ _ h).mono ?_; rintro e w' ⟨rfl, rfl⟩)
    | (go_at_call 7; refine (has_no _ _ (by omega) HS.out).mono ?_; rintro e w' ⟨rfl, rfl⟩)
    | (go_at_call 6; refine (answering _ _).mono ?_; rintro e w' ⟨rfl, rfl⟩; rw [hn])
    | (go_at_call 9; with_reducible refine (zz_nil c (d ++ sp ++ r) m d _ S1.out (.inr (word_own d r HS.out))).mono ?_; rintro e w1 ⟨rfl, hb1⟩)
    | (go_at_call 9; with_reducible refine (zz_nil c d m d _ (by omega) (.inr (word_no HS.out))).mono ?_; rintro e w2 ⟨rfl, hb2⟩)
    | (go_at_call 9; with_reducible refine (zz_err F c (ex ++ d ++ sp ++ r) m d _ (by rw [hb2.tape, hb1.tape]; exact hF) hn S2.out (word_oth d r HS.out)).mono ?_; rintro e w3 ⟨⟨v, rfl⟩, hb3⟩))
  go_ret
  exact ⟨rfl, belowTr (belowTr hb1 hb2) hb3⟩

theorem built_all (F : Interp) (c : Int) (m d r : ByteArray) (w : World) (hF : F.answers w.tape) (h0 : m.size ≤ maxLen) (h1 : d.size ≤ maxLen) (h2 : r.size ≤ maxLen) :
    Calls Tryf.prog 4 #[.int .i64 c, .string m, .string d, .string r] w fun e w' => e = .returned (.bool true) ∧ Below w.heap.size w w' := by
  rcases Nat.lt_or_ge 1048576 (m.size + d.size + r.size) with g | g
  · exact bt_far c m d r w g h0 h1 h2
  rcases Plain.sp_cases d.data.toList with hs | ⟨i, hi⟩
  · cases hn : Plain.naming c with
    | false => exact bt_quiet c m d r w g hn hs
    | true => exact bt_named F c m d r w hF g hn hs
  · exact bt_space c m d r i w g hi

end Go.Proofs.Qxb6605917aFmt.Wk
