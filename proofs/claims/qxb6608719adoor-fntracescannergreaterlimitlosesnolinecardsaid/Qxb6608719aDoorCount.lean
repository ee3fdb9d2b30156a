/-
  THE WALKS of the second law's small helpers: the bound (16), countNewlines (17), lastNewline (18); and the plain laws on the number of newlines.
-/
import Derived.Test.Qxb6608719aDoorWalks2
namespace Go.Proofs.Qxb6608719aDoor.Sc
open Go.RowKit

/-- the number of newlines among the first k bytes -/
def cnt (l : List UInt8) (k : Nat) : Nat := (l.take k).countP (· == 10)
theorem cnt_zero (l : List UInt8) : cnt l 0 = 0 := by simp [cnt]
theorem cnt_le (l : List UInt8) (k : Nat) : cnt l k ≤ k := by
  unfold cnt
  have := List.countP_le_length (p := (· == (10 : UInt8))) (l := l.take k)
  rw [List.length_take] at this
  omega
theorem take_step {l : List UInt8} {k : Nat} {c : UInt8} (h : l[k]? = some c) : l.take (k + 1) = l.take k ++ [c] := by
  rw [List.take_add_one, h]; rfl
theorem cnt_nl {l : List UInt8} {k : Nat} (h : l[k]? = some 10) : cnt l (k + 1) = cnt l k + 1 := by
  unfold cnt
  rw [take_step h, List.countP_append]; rfl
theorem cnt_no {l : List UInt8} {k : Nat} {c : UInt8} (h : l[k]? = some c) (hc : c ≠ 10) : cnt l (k + 1) = cnt l k := by
  unfold cnt
  rw [take_step h, List.countP_append]
  simp [hc]
theorem cnt_gap {l : List UInt8} {p : Nat} : ∀ i, (∀ j, j < i → (l.drop p)[j]? ≠ some 10) → p + i ≤ l.length → cnt l (p + i) = cnt l p
  | 0, _, _ => rfl
  | i + 1, h, hl => by
    have h1 : l[p + i]? = some (l[p + i]'(by omega)) := List.getElem?_eq_getElem (by omega)
    rw [← Nat.add_assoc, cnt_no h1 (fun e => h i (by omega) (by rw [List.getElem?_drop, h1, e]))]
    exact cnt_gap i (fun j hj => h j (by omega)) (by omega)

theorem bytes16 (s : ByteArray) (L M : Int) (w : World) (h : s.size ≤ 1048576) :
    Calls Tryd.prog 16 #[.string s, .int .i64 L, .int .i64 M] w fun e w' => e = .returned (.bool true) ∧ w' = w := by
  go_enter Tryd.func16, Tryd.ntmps16
  go_wp2
  go_ret
  exact ⟨rfl, rfl⟩
theorem bytes16_no (s : ByteArray) (L M : Int) (w : World) (hm : s.size ≤ maxLen) (h : 1048576 < s.size) :
    Calls Tryd.prog 16 #[.string s, .int .i64 L, .int .i64 M] w fun e w' => e = .returned (.bool false) ∧ w' = w := by
  unfold maxLen at hm
  go_enter Tryd.func16, Tryd.ntmps16
  go_wp2
  go_ret
  exact ⟨rfl, rfl⟩

theorem byteAt (s : ByteArray) (k : Nat) (h : k < s.size) : s.data.toList[k]? = some s[k] := List.getElem?_eq_getElem (l := s.data.toList) h
theorem isNl {c : UInt8} (h : c = 10) : ((c.toNat : Int) == 10) = true := by rw [h]; rfl
theorem notNl {c : UInt8} (h : c ≠ 10) : ((c.toNat : Int) == 10) = false := by
  refine beq_eq_false_iff_ne.2 fun e => h ?_
  have e' : c.toNat = (10 : UInt8).toNat := by simpa using (by omega : c.toNat = 10)
  exact UInt8.toNat_inj.1 e'

/-- countNewlines -/
theorem count17 (s : ByteArray) (w : World) (hs : s.size ≤ 1048577) :
    Calls Tryd.prog 17 #[.string s] w fun e w' => e = .returned (.int .i64 (cnt s.data.toList s.size : Int)) ∧ w' = w := by
  go_enter Tryd.func17, Tryd.ntmps17
  go_wp2
  go_loop [3, 4] (fun n i => ∃ k c : Nat, k ≤ s.size ∧ c ≤ k ∧ i = .int .i64 k ∧ n = .int .i64 c ∧ Hid (c = cnt s.data.toList k)) (fun _ i => s.size - (intOf i).toNat)
  case atStart => exact ⟨0, 0, Nat.zero_le _, Nat.le_refl _, rfl, rfl, (cnt_zero _).symm⟩
  case round =>
    obtain ⟨k, c, hk, hck, rfl, rfl, HC⟩ := hrel
    rcases Nat.lt_or_ge k s.size with hlt | hge
    · have hi : (k : Int) < (s.size : Int) := by omega
      by_cases hc : s[k] = 10
      · have he := isNl hc
        have H2 : Hid (c + 1 = cnt s.data.toList (k + 1)) := by
          have h1 : s.data.toList[k]? = some 10 := by rw [byteAt s k hlt, hc]
          show c + 1 = _
          rw [cnt_nl h1, ← HC.out]
        clear hc HC
        go_wp2
        go_round
        case rel => exact ⟨k + 1, c + 1, by omega, by omega, by go_num, by go_num, H2⟩
        case measure => simp [intOf]; omega
      · have he := notNl hc
        have H2 : Hid (c = cnt s.data.toList (k + 1)) := by
          show c = _
          rw [cnt_no (byteAt s k hlt) hc]; exact HC.out
        clear hc HC
        go_wp2
        go_round
        case rel => exact ⟨k + 1, c, by omega, by omega, by go_num, by go_num, H2⟩
        case measure => simp [intOf]; omega
    · have hi : ¬ (k : Int) < (s.size : Int) := by omega
      have H2 : Hid (c = cnt s.data.toList s.size) := by
        have : k = s.size := by omega
        rw [← this]; exact HC
      clear HC
      go_wp2
      go_ret
      exact ⟨ret_i64 (by rw [H2.out]), rfl⟩

/-- lastNewline: none. -/
theorem last_no (s : ByteArray) (w : World) (hs : s.size ≤ 1048577) (hl : Plain.NoNl s.data.toList) :
    Calls Tryd.prog 18 #[.string s] w fun e w' => e = .returned (.int .i64 (-1)) ∧ w' = w := by
  have HL : Hid (Plain.NoNl s.data.toList) := hl
  clear hl
  go_enter Tryd.func18, Tryd.ntmps18
  go_wp2
  go_loop [3] (fun i => ∃ k : Nat, k ≤ s.size ∧ i = .int .i64 ((k : Int) - 1)) (fun i => (intOf i + 1).toNat)
  case atStart => exact ⟨s.size, Nat.le_refl _, by go_num⟩
  case round =>
    obtain ⟨k, hk, rfl⟩ := hrel
    rcases Nat.eq_zero_or_pos k with h0 | h0
    · subst h0
      go_wp2
      go_ret
      exact ⟨rfl, rfl⟩
    · obtain ⟨j, rfl⟩ : ∃ j, k = j + 1 := ⟨k - 1, by omega⟩
      have ej : (((j + 1 : Nat) : Int) - 1) = (j : Int) := by omega
      rw [ej]
      have hlt : j < s.size := by omega
      have hi : (j : Int) < (s.size : Int) := by omega
      have he : ((s[j].toNat : Int) == 10) = false := notNl (fun e => HL.out j (by rw [byteAt s j hlt, e]))
      go_wp2
      go_round
      case rel => exact ⟨j, by omega, by go_num⟩
      case measure => simp [intOf]

/-- lastNewline: at q. -/
theorem last_at (s : ByteArray) (q : Nat) (w : World) (hs : s.size ≤ 1048577) (hq : s.data.toList[q]? = some 10) (hl : ∀ j, q < j → s.data.toList[j]? ≠ some 10) :
    Calls Tryd.prog 18 #[.string s] w fun e w' => e = .returned (.int .i64 (q : Int)) ∧ w' = w := by
  have hq0 : q < s.size := (List.getElem?_eq_some_iff.1 hq).1
  have HQ : Hid (s.data.toList[q]? = some 10) := hq
  have HL : Hid (∀ j, q < j → s.data.toList[j]? ≠ some 10) := hl
  clear hl hq
  go_enter Tryd.func18, Tryd.ntmps18
  go_wp2
  go_loop [3] (fun i => ∃ k : Nat, q ≤ k ∧ k < s.size ∧ i = .int .i64 (k : Int)) (fun i => (intOf i + 1).toNat)
  case atStart => exact ⟨s.size - 1, by omega, by omega, by go_num⟩
  case round =>
    obtain ⟨j, hqj, hlt, rfl⟩ := hrel
    have hi : (j : Int) < (s.size : Int) := by omega
    by_cases hjq : j = q
    · have he : ((s[j].toNat : Int) == 10) = true := isNl (by
        have := HQ.out
        rw [← hjq, byteAt s j hlt] at this
        exact Option.some.inj this)
      have HJ : Hid (j = q) := hjq
      clear hjq
      go_wp2
      go_ret
      exact ⟨ret_i64 (by rw [HJ.out]), rfl⟩
    · have he : ((s[j].toNat : Int) == 10) = false := notNl (fun e => HL.out j (by omega) (by rw [byteAt s j hlt, e]))
      go_wp2
      go_round
      case rel => exact ⟨j - 1, by omega, by omega, by go_num⟩
      case measure => simp [intOf]

end Go.Proofs.Qxb6608719aDoor.Sc
