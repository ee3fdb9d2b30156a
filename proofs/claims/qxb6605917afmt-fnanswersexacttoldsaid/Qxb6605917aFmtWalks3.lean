/-
  THE WALKS of the law's small helpers: b1HasSpace (7), b1OpensWith (8), the two bounds (5, 10).
-/
import Derived.Test.Qxb6605917aFmtWalks
namespace Go.Proofs.Qxb6605917aFmt.Wk
open Go.RowKit
open Go.Proofs.Qxb6605917aFmt

structure Hid (p : Prop) : Prop where
  out : p
theorem hid {p : Prop} (h : p) : Hid p := ⟨h⟩

/-- b1HasSpace: none. -/
theorem has_no (s : ByteArray) (w : World) (hs : s.size ≤ 1048577) (hl : Plain.NoSp s.data.toList) :
    Calls Tryf.prog 7 #[.string s] w fun e w' => e = .returned (.bool false) ∧ w' = w := by
  have HL := hid hl
  clear hl
  go_enter Tryf.func7, Tryf.ntmps7
  go_wp2
  go_loop [3] (fun i => ∃ k : Nat, k ≤ s.size ∧ i = .int .i64 k) (fun i => s.size - (intOf i).toNat)
  case atStart => exact ⟨0, Nat.zero_le _, rfl⟩
  case round =>
    obtain ⟨k, hk, rfl⟩ := hrel
    rcases Nat.lt_or_ge k s.size with hlt | hge
    · have hi : (k : Int) < (s.size : Int) := by omega
      have hne : ((s[k].toNat : Int) == 32) = false := by
        have h1 := HL.out k
        rw [show s.data.toList[k]? = some s[k] from List.getElem?_eq_getElem (l := s.data.toList) hlt] at h1
        refine beq_eq_false_iff_ne.2 fun e => h1 ?_
        have e' : s[k].toNat = (32 : UInt8).toNat := by simpa using (by omega : s[k].toNat = 32)
        rw [UInt8.toNat_inj.1 e']
      go_wp2
      go_round
      case rel => exact ⟨k + 1, by omega, by go_num⟩
      case measure => simp [intOf]; omega
    · have hi : ¬ (k : Int) < (s.size : Int) := by omega
      go_wp2
      go_ret
      exact ⟨rfl, rfl⟩

/-- b1HasSpace: one. -/
theorem has_at (s : ByteArray) (i : Nat) (w : World) (hs : s.size ≤ 1048577) (hl : Plain.SpAt s.data.toList i) :
    Calls Tryf.prog 7 #[.string s] w fun e w' => e = .returned (.bool true) ∧ w' = w := by
  have hlt0 := hl.lt
  rw [show s.data.toList.length = s.size from rfl] at hlt0
  have HL := hid hl
  clear hl
  go_enter Tryf.func7, Tryf.ntmps7
  go_wp2
  go_loop [3] (fun v => ∃ k : Nat, k ≤ i ∧ v = .int .i64 k) (fun v => s.size - (intOf v).toNat)
  case atStart => exact ⟨0, Nat.zero_le _, rfl⟩
  case round =>
    obtain ⟨k, hk, rfl⟩ := hrel
    have hlt : k < s.size := by omega
    have hi : (k : Int) < (s.size : Int) := by omega
    have hget : Hid (s.data.toList[k]? = some s[k]) := ⟨List.getElem?_eq_getElem (l := s.data.toList) hlt⟩
    by_cases hki : k = i
    · have he : ((s[k].toNat : Int) == 32) = true := by
        have h1 := HL.out.1
        rw [← hki, hget.out] at h1
        injection h1 with h1
        rw [h1]; rfl
      clear hki
      go_wp2
      go_ret
      exact ⟨rfl, rfl⟩
    · have hne : ((s[k].toNat : Int) == 32) = false := by
        have h1 := HL.out.2 k (by omega)
        rw [hget.out] at h1
        refine beq_eq_false_iff_ne.2 fun e => h1 ?_
        have e' : s[k].toNat = (32 : UInt8).toNat := by simpa using (by omega : s[k].toNat = 32)
        rw [UInt8.toNat_inj.1 e']
      go_wp2
      go_round
      case rel => exact ⟨k + 1, by omega, by go_num⟩
      case measure => simp [intOf]; omega

theorem bytes5 (c : Int) (t m d : ByteArray) (w : World) (h : t.size + m.size + d.size ≤ 1048576) :
    Calls Tryf.prog 5 #[.int .i64 c, .string t, .string m, .string d] w fun e w' => e = .returned (.bool true) ∧ w' = w := by
  go_enter Tryf.func5, Tryf.ntmps5
  go_wp2
  go_ret
  exact ⟨rfl, rfl⟩

theorem bytes5_no (c : Int) (t m d : ByteArray) (w : World) (h : 1048576 < t.size + m.size + d.size) (h0 : t.size ≤ maxLen) (h1 : m.size ≤ maxLen) (h2 : d.size ≤ maxLen) :
    Calls Tryf.prog 5 #[.int .i64 c, .string t, .string m, .string d] w fun e w' => e = .returned (.bool false) ∧ w' = w := by
  unfold maxLen at h0 h1 h2
  rcases Nat.lt_or_ge 1048576 t.size with a | a
  · go_enter Tryf.func5, Tryf.ntmps5
    go_wp2
    go_ret
    exact ⟨rfl, rfl⟩
  rcases Nat.lt_or_ge 1048576 m.size with b | b
  · go_enter Tryf.func5, Tryf.ntmps5
    go_wp2
    go_ret
    exact ⟨rfl, rfl⟩
  rcases Nat.lt_or_ge 1048576 (t.size + m.size) with b' | b'
  · go_enter Tryf.func5, Tryf.ntmps5
    go_wp2
    go_ret
    exact ⟨rfl, rfl⟩
  rcases Nat.lt_or_ge 1048576 d.size with e | e
  · go_enter Tryf.func5, Tryf.ntmps5
    go_wp2
    go_ret
    exact ⟨rfl, rfl⟩
  go_enter Tryf.func5, Tryf.ntmps5
  go_wp2
  go_ret
  exact ⟨rfl, rfl⟩

theorem bytes10 (c : Int) (t m d : ByteArray) (w : World) (h : t.size + m.size + d.size ≤ 1048576) :
    Calls Tryf.prog 10 #[.int .i64 c, .string t, .string m, .string d] w fun e w' => e = .returned (.bool true) ∧ w' = w := by
  go_enter Tryf.func10, Tryf.ntmps10
  go_wp2
  go_ret
  exact ⟨rfl, rfl⟩

theorem bytes10_no (c : Int) (t m d : ByteArray) (w : World) (h : 1048576 < t.size + m.size + d.size) (h0 : t.size ≤ maxLen) (h1 : m.size ≤ maxLen) (h2 : d.size ≤ maxLen) :
    Calls Tryf.prog 10 #[.int .i64 c, .string t, .string m, .string d] w fun e w' => e = .returned (.bool false) ∧ w' = w := by
  unfold maxLen at h0 h1 h2
  rcases Nat.lt_or_ge 1048576 t.size with a | a
  · go_enter Tryf.func10, Tryf.ntmps10
    go_wp2
    go_ret
    exact ⟨rfl, rfl⟩
  rcases Nat.lt_or_ge 1048576 m.size with b | b
  · go_enter Tryf.func10, Tryf.ntmps10
    go_wp2
    go_ret
    exact ⟨rfl, rfl⟩
  rcases Nat.lt_or_ge 1048576 (t.size + m.size) with b' | b'
  · go_enter Tryf.func10, Tryf.ntmps10
    go_wp2
    go_ret
    exact ⟨rfl, rfl⟩
  rcases Nat.lt_or_ge 1048576 d.size with e | e
  · go_enter Tryf.func10, Tryf.ntmps10
    go_wp2
    go_ret
    exact ⟨rfl, rfl⟩
  go_enter Tryf.func10, Tryf.ntmps10
  go_wp2
  go_ret
  exact ⟨rfl, rfl⟩

end Go.Proofs.Qxb6605917aFmt.Wk
