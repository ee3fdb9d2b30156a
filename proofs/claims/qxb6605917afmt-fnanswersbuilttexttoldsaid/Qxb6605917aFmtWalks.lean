/-
  THE WALKS of strings.Cut at a space (functions 12, 14, 17, 18), of fmt.Errorf at the one format (13), of answers (11, 9) and of the law's helpers (6).
-/
import Derived.Test.Qxb6605917aFmtProg
import Derived.WalkKit
import Derived.WalkSpells
import Derived.WalkLawsBesides
import Derived.Deep.QuietTactic
import Derived.BigQuiet
import Derived.Deep.LoopGhost
import Derived.Lib.Bytealg
import Derived.Laws.Strings
import Derived.WideShapes
import Derived.Shelf.RegionOpenPlain
import Derived.Test.Qxb6605917aFmtPlain
import Derived.Test.Qxb6605917aFmtFacts
namespace Go.Proofs.Qxb6605917aFmt.Wk
open Go.RowKit Go.Extern.Stop Go.Stop Go.Extern
open Go.Proofs.Qxb6605917aFmt

abbrev sp : ByteArray := ⟨#[32]⟩

theorem idx18 (s : ByteArray) (c : Int) (w : World) :
    Calls Tryf.prog 18 #[.string s, .int .u8 c] w fun e w' => e = .returned (.int .i64 (Lib.indexByte s.data.toList c.toNat.toUInt8)) ∧ w' = w := by
  go_enter Tryf.func18, Tryf.ntmps18
  go_wp2
  rw [run_callFunc_extern Tryf.func22 (by kernel_rfl) (by kernel_rfl) (by kernel_rfl) (e := Extern.BytealgIndexByte.indexByte) (by kernel_rfl), Lib.run_indexByteString]
  simp only [Result.andThen]
  rw [Oper.upon_value]
  go_wp2
  go_ret
  exact ⟨rfl, rfl⟩

theorem idx17_one (s : ByteArray) (w : World) (hq : ([32] == s.toList) = true) :
    Calls Tryf.prog 17 #[.string s, .string sp] w fun e w' => e = .returned (.int .i64 0) ∧ w' = w := by
  go_enter Tryf.func17, Tryf.ntmps17
  go_wp2
  go_ret
  exact ⟨rfl, rfl⟩

theorem idx17 (s : ByteArray) (w : World) :
    Calls Tryf.prog 17 #[.string s, .string sp] w fun e w' => e = .returned (.int .i64 (Lib.indexByte s.data.toList 32)) ∧ w' = w := by
  by_cases hs : s = sp
  · subst hs
    exact idx17_one sp w (by rw [ByteArray.toList_eq]; rfl)
  have hq : ([32] == s.toList) = false := by
    rw [ByteArray.toList_eq]
    refine beq_eq_false_iff_ne.2 fun e => hs (Go.WideShapes.bytes_inj ?_)
    rw [← e]
  go_enter Tryf.func17, Tryf.ntmps17
  go_wp2_with (go_at_call 18; refine (idx18 _ _ _).mono ?_; rintro e w' ⟨rfl, rfl⟩)
  go_ret
  exact ⟨rfl, rfl⟩

theorem cut14_no (s : ByteArray) (w : World) (h : Lib.indexByte s.data.toList 32 = -1) :
    Calls Tryf.prog 14 #[.string s, .string sp] w fun e w' => e = .returned (.tuple #[.string s, .string ByteArray.empty, .bool false]) ∧ w' = w := by
  go_enter Tryf.func14, Tryf.ntmps14
  go_wp2_with (go_at_call 17; refine (idx17 _ _).mono ?_; rintro e w' ⟨rfl, rfl⟩; rw [h])
  go_ret3
  exact ⟨rfl, rfl⟩

theorem cut12_no (s : ByteArray) (w : World) (h : Lib.indexByte s.data.toList 32 = -1) :
    Calls Tryf.prog 12 #[.string s, .string sp] w fun e w' => e = .returned (.tuple #[.string s, .string ByteArray.empty, .bool false]) ∧ w' = w := by
  go_enter Tryf.func12, Tryf.ntmps12
  go_wp2_with (go_at_call 14; refine (cut14_no _ _ h).mono ?_; rintro e w' ⟨rfl, rfl⟩)
  go_ret3
  exact ⟨rfl, rfl⟩

theorem cut14_at (s : ByteArray) (i : Nat) (w : World) (h : Lib.indexByte s.data.toList 32 = (i : Int)) (hi : i < s.size) (hm : s.size ≤ 2097152) :
    Calls Tryf.prog 14 #[.string s, .string sp] w fun e w' => e = .returned (.tuple #[.string (s.extract 0 i), .string (s.extract (i + 1) s.size), .bool true]) ∧ ∃ n, w' = w.drewN n := by
  have c1 : (0 : Int) ≤ (i : Int) := by omega
  have c2 : (i : Int) ≤ (s.size : Int) := by omega
  have c3 : (0 : Int) ≤ (i : Int) + 1 := by omega
  have c4 : (i : Int) + 1 ≤ (s.size : Int) := by omega
  have e1 : IntKind.i64.wrap ((i : Int) + 1) = (i : Int) + 1 := by rw [IntKind.wrap_i64]; omega
  have e2 : ((i : Int) + 1).toNat = i + 1 := by omega
  go_enter Tryf.func14, Tryf.ntmps14
  go_wp2_with (go_at_call 17; refine (idx17 _ _).mono ?_; rintro e w' ⟨rfl, rfl⟩; rw [h])
  go_region
  go_wp2
  go_ret3
  exact ⟨rfl, _, rfl⟩

theorem cut12_at (s : ByteArray) (i : Nat) (w : World) (h : Lib.indexByte s.data.toList 32 = (i : Int)) (hi : i < s.size) (hm : s.size ≤ 2097152) :
    Calls Tryf.prog 12 #[.string s, .string sp] w fun e w' => e = .returned (.tuple #[.string (s.extract 0 i), .string (s.extract (i + 1) s.size), .bool true]) ∧ ∃ n, w' = w.drewN n := by
  go_enter Tryf.func12, Tryf.ntmps12
  go_wp2_with (go_at_call 14; refine (cut14_at _ i _ h hi hm).mono ?_; rintro e w' ⟨rfl, n, rfl⟩)
  go_ret3
  exact ⟨rfl, n, rfl⟩

theorem answering (c : Int) (w : World) :
    Calls Tryf.prog 6 #[.int .i64 c] w fun e w' => e = .returned (.bool (Plain.naming c)) ∧ w' = w := by
  by_cases h0 : (c == 238) = true
  · have e : Plain.naming c = true := by simp [Plain.naming, h0]
    rw [e]
    go_enter Tryf.func6, Tryf.ntmps6
    go_wp2
    go_ret
    exact ⟨rfl, rfl⟩
  replace h0 : (c == 238) = false := by simpa using h0
  by_cases h1 : (c == 431) = true
  · have e : Plain.naming c = true := by simp [Plain.naming, h1]
    rw [e]
    go_enter Tryf.func6, Tryf.ntmps6
    go_wp2
    go_ret
    exact ⟨rfl, rfl⟩
  replace h1 : (c == 431) = false := by simpa using h1
  by_cases h2 : (c == 438) = true
  · have e : Plain.naming c = true := by simp [Plain.naming, h2]
    rw [e]
    go_enter Tryf.func6, Tryf.ntmps6
    go_wp2
    go_ret
    exact ⟨rfl, rfl⟩
  replace h2 : (c == 438) = false := by simpa using h2
  by_cases h3 : (c == 239) = true
  · have e : Plain.naming c = true := by simp [Plain.naming, h3]
    rw [e]
    go_enter Tryf.func6, Tryf.ntmps6
    go_wp2
    go_ret
    exact ⟨rfl, rfl⟩
  replace h3 : (c == 239) = false := by simpa using h3
  by_cases h4 : (c == 439) = true
  · have e : Plain.naming c = true := by simp [Plain.naming, h4]
    rw [e]
    go_enter Tryf.func6, Tryf.ntmps6
    go_wp2
    go_ret
    exact ⟨rfl, rfl⟩
  replace h4 : (c == 439) = false := by simpa using h4
  have e : Plain.naming c = false := by simp only [Plain.naming, h0, h1, h2, h3, h4, Bool.or_self]
  rw [e]
  go_enter Tryf.func6, Tryf.ntmps6
  go_wp2
  go_ret
  exact ⟨rfl, rfl⟩

/-- the word ahead of the first space -/
def word (t : ByteArray) : ByteArray := if Lib.indexByte t.data.toList 32 = -1 then t else t.extract 0 (Lib.indexByte t.data.toList 32).toNat

theorem cut12 (t : ByteArray) (w : World) (hm : t.size ≤ 2097152) :
    Calls Tryf.prog 12 #[.string t, .string sp] w fun e w' => ∃ r b, e = .returned (.tuple #[.string (word t), .string r, .bool b]) ∧ ∃ n, w' = w.drewN n := by
  rcases Plain.sp_cases t.data.toList with h | ⟨i, h⟩
  · have e : word t = t := by unfold word; rw [if_pos h.index]
    rw [e]
    exact (cut12_no t w h.index).mono fun e w' ⟨h1, h2⟩ => ⟨_, _, h1, 0, by rw [h2]; rfl⟩
  · have e : word t = t.extract 0 i := by
      unfold word
      rw [h.index, if_neg (by omega)]
      rfl
    rw [e]
    exact (cut12_at t i w h.index h.lt hm).mono fun e w' ⟨h1, h2⟩ => ⟨_, _, h1, h2⟩

theorem belowN {B : Nat} {a w : World} (h : Below B a w) (n : Nat) : Below B a (w.drewN n) := ⟨h.os, h.tape, h.output, h.size, h.block⟩

/-- answers at a code that names no article -/
theorem ans_quiet (c : Int) (t cmd d : ByteArray) (w : World) (h : Plain.naming c = false) :
    Calls Tryf.prog 11 #[.agg #[.int .i64 c, .string t], .string cmd, .string d] w fun e w' => e = .returned .nilIface ∧ Below w.heap.size w w' := by
  simp only [Plain.naming, Bool.or_eq_false_iff] at h
  obtain ⟨⟨⟨⟨h0, h1⟩, h2⟩, h3⟩, h4⟩ := h
  go_enter Tryf.func11, Tryf.ntmps11
  go_wp2
  go_ret
  exact ⟨rfl, (Below.refl _ w).alloc (Nat.le_refl _) _⟩

theorem naming_cases {c : Int} (h : Plain.naming c = true) : c = 238 ∨ c = 431 ∨ c = 438 ∨ c = 239 ∨ c = 439 := by
  simp [Plain.naming] at h
  omega

theorem ans_own (c : Int) (t cmd d : ByteArray) (w : World) (h : Plain.naming c = true) (hm : t.size ≤ 2097152) (hw : word t = d) :
    Calls Tryf.prog 11 #[.agg #[.int .i64 c, .string t], .string cmd, .string d] w fun e w' => e = .returned .nilIface ∧ Below w.heap.size w w' := by
  have hq : (d.toList == d.toList) = true := beq_self_eq_true _
  obtain rfl | rfl | rfl | rfl | rfl := naming_cases h
  · go_enter Tryf.func11, Tryf.ntmps11
    go_wp2_with (go_at_call 12; refine (cut12 _ _ hm).mono ?_; rintro e w' ⟨r, b, rfl, n, rfl⟩; rw [hw])
    go_ret
    exact ⟨rfl, belowN ((Below.refl _ w).alloc (Nat.le_refl _) _) n⟩
  · go_enter Tryf.func11, Tryf.ntmps11
    go_wp2_with (go_at_call 12; refine (cut12 _ _ hm).mono ?_; rintro e w' ⟨r, b, rfl, n, rfl⟩; rw [hw])
    go_ret
    exact ⟨rfl, belowN ((Below.refl _ w).alloc (Nat.le_refl _) _) n⟩
  · go_enter Tryf.func11, Tryf.ntmps11
    go_wp2_with (go_at_call 12; refine (cut12 _ _ hm).mono ?_; rintro e w' ⟨r, b, rfl, n, rfl⟩; rw [hw])
    go_ret
    exact ⟨rfl, belowN ((Below.refl _ w).alloc (Nat.le_refl _) _) n⟩
  · go_enter Tryf.func11, Tryf.ntmps11
    go_wp2_with (go_at_call 12; refine (cut12 _ _ hm).mono ?_; rintro e w' ⟨r, b, rfl, n, rfl⟩; rw [hw])
    go_ret
    exact ⟨rfl, belowN ((Below.refl _ w).alloc (Nat.le_refl _) _) n⟩
  · go_enter Tryf.func11, Tryf.ntmps11
    go_wp2_with (go_at_call 12; refine (cut12 _ _ hm).mono ?_; rintro e w' ⟨r, b, rfl, n, rfl⟩; rw [hw])
    go_ret
    exact ⟨rfl, belowN ((Below.refl _ w).alloc (Nat.le_refl _) _) n⟩

end Go.Proofs.Qxb6605917aFmt.Wk
