/-
  THE WALKS of the law's small helpers and of the scanner's maker.
-/
import Derived.Test.Qxb6608719aDoorWalks
namespace Go.Proofs.Qxb6608719aDoor.Sc
open Go.RowKit

theorem ret_i64 {a b : Int} (h : a = b) : Ending.returned (.int .i64 a) = .returned (.int .i64 b) := by rw [h]

/-- indexNewlineFrom: none. -/
theorem inf_no (s : ByteArray) (p : Nat) (w : World) (hs : s.size ≤ 1048577) (hp : p ≤ s.size) (hl : Plain.NoNl (s.data.toList.drop p)) :
    Calls Tryd.prog 9 #[.string s, .int .i64 p] w fun e w' => e = .returned (.int .i64 (-1)) ∧ w' = w := by
  go_enter Tryd.func9, Tryd.ntmps9
  go_wp2
  go_loop [5] (fun i => ∃ k : Nat, p ≤ k ∧ k ≤ s.size ∧ i = .int .i64 k) (fun i => s.size - (intOf i).toNat)
  case atStart => exact ⟨p, Nat.le_refl _, hp, rfl⟩
  case round =>
    obtain ⟨k, hpk, hk, rfl⟩ := hrel
    rcases Nat.lt_or_ge k s.size with hlt | hge
    · have hi : (k : Int) < (s.size : Int) := by omega
      have hne : ((s[k].toNat : Int) == 10) = false := by
        have h1 := hl (k - p)
        rw [List.getElem?_drop, show p + (k - p) = k by omega, show s.data.toList[k]? = some s[k] from List.getElem?_eq_getElem (l := s.data.toList) hlt] at h1
        refine beq_eq_false_iff_ne.2 fun e => h1 ?_
        have e' : s[k].toNat = (10 : UInt8).toNat := by simpa using (by omega : s[k].toNat = 10)
        rw [UInt8.toNat_inj.1 e']
      have hl' : Hid _ := hl
      clear hl
      go_wp2
      go_round
      case rel => exact ⟨k + 1, by omega, by omega, by go_num⟩
      case measure => simp [intOf]; omega
    · have hi : ¬ (k : Int) < (s.size : Int) := by omega
      have hl' : Hid _ := hl
      clear hl
      go_wp2
      go_ret
      exact ⟨rfl, rfl⟩

/-- indexNewlineFrom: the first at p + i. -/
theorem inf_at (s : ByteArray) (p i : Nat) (w : World) (hs : s.size ≤ 1048577) (hl : Plain.NlAt (s.data.toList.drop p) i) :
    Calls Tryd.prog 9 #[.string s, .int .i64 p] w fun e w' => e = .returned (.int .i64 ((p + i : Nat) : Int)) ∧ w' = w := by
  have hlt0 := hl.lt
  rw [List.length_drop, show s.data.toList.length = s.size from rfl] at hlt0
  have HL : Hid (Plain.NlAt (s.data.toList.drop p) i) := hl
  clear hl
  go_enter Tryd.func9, Tryd.ntmps9
  go_wp2
  go_loop [5] (fun v => ∃ k : Nat, p ≤ k ∧ k ≤ p + i ∧ v = .int .i64 k) (fun v => s.size - (intOf v).toNat)
  case atStart => exact ⟨p, Nat.le_refl _, by omega, rfl⟩
  case round =>
    obtain ⟨k, hpk, hk, rfl⟩ := hrel
    have hlt : k < s.size := by omega
    have hi : (k : Int) < (s.size : Int) := by omega
    have hget : Hid (s.data.toList[k]? = some s[k]) := List.getElem?_eq_getElem (l := s.data.toList) hlt
    by_cases hki : k = p + i
    · have he : ((s[k].toNat : Int) == 10) = true := by
        have h1 := HL.out.1
        rw [List.getElem?_drop, ← hki, hget.out] at h1
        injection h1 with h1
        rw [h1]; rfl
      have HK : Hid (k = p + i) := hki
      clear hki
      go_wp2
      go_ret
      exact ⟨ret_i64 (by have := HK.out; omega), rfl⟩
    · have hne : ((s[k].toNat : Int) == 10) = false := by
        have h1 := HL.out.2 (k - p) (by omega)
        rw [List.getElem?_drop, show p + (k - p) = k by omega, hget.out] at h1
        refine beq_eq_false_iff_ne.2 fun e => h1 ?_
        have e' : s[k].toNat = (10 : UInt8).toNat := by simpa using (by omega : s[k].toNat = 10)
        rw [UInt8.toNat_inj.1 e']
      go_wp2
      go_round
      case rel => exact ⟨k + 1, by omega, by omega, by go_num⟩
      case measure => simp [intOf]; omega

/-- sameText, where they are the same. -/
theorem same (b o n c : Nat) (s : ByteArray) (w : World) (hn : s.size = n) (hs : n ≤ 1048577) (h : RowAt w b o s.data.toList) :
    Calls Tryd.prog 14 #[.slice (some ⟨b, o, none⟩) n c, .string s] w fun e w' => e = .returned (.bool true) ∧ ∃ m, w' = w.drewN m := by
  subst hn
  have H : Hid (RowAt w b o s.data.toList) := h
  clear h
  have hsz : ((s.size : Int) != (s.size : Int)) = false := bne_self_eq_false _
  go_enter Tryd.func14, Tryd.ntmps14
  go_wp2
  go_loopg [5] s.size (fun g v wr => ∃ k : Nat, k ≤ s.size ∧ v = .int .i64 k ∧ g = s.size - k ∧ ∃ m, wr = w.drewN m)
  case atStart => exact ⟨0, Nat.zero_le _, rfl, rfl, 0, rfl⟩
  case round =>
    obtain ⟨k, hk, rfl, hg, m, rfl⟩ := hrel
    have HG : Hid (gk = s.size - k) := hg
    clear hg
    rcases Nat.lt_or_ge k s.size with hlt | hge
    · have hi : (k : Int) < (s.size : Int) := by omega
      have hc : w.cell? ⟨b, o + k, none⟩ = some (.int .u8 (s[k].toNat : Int)) := by
        rw [H.out k hlt]
        have : s.data.toList.getD k 0 = s[k] := by
          rw [List.getD, show s.data.toList[k]? = some s[k] from List.getElem?_eq_getElem (l := s.data.toList) hlt]; rfl
        rw [this]
      have hne : ((s[k].toNat : Int) != (s[k].toNat : Int)) = false := bne_self_eq_false _
      go_wp2_with fail
      go_quiet (fail)
      go_wp2_with fail
      go_roundg (s.size - (k + 1))
      case measure => have := HG.out; omega
      case rel => exact ⟨k + 1, by omega, by go_num, rfl, _, rfl⟩
    · have hi : ¬ (k : Int) < (s.size : Int) := by omega
      go_wp2_with fail
      go_ret
      exact ⟨rfl, _, rfl⟩

theorem zzover (v : Int) (b : Nat) (w : World) (h : w.cell? ⟨b, 3, none⟩ = some (.int .i64 v)) :
    Calls Tryd.prog 15 #[.pointer (some ⟨b, 0, none⟩)] w fun e w' => e = .returned (.int .i64 v) ∧ w' = w := by
  go_enter Tryd.func15, Tryd.ntmps15
  go_wp2
  go_ret
  exact ⟨rfl, rfl⟩
theorem zztail (v : Int) (b : Nat) (w : World) (h : w.cell? ⟨b, 4, none⟩ = some (.int .i64 v)) :
    Calls Tryd.prog 12 #[.pointer (some ⟨b, 0, none⟩)] w fun e w' => e = .returned (.int .i64 v) ∧ w' = w := by
  go_enter Tryd.func12, Tryd.ntmps12
  go_wp2
  go_ret
  exact ⟨rfl, rfl⟩

end Go.Proofs.Qxb6608719aDoor.Sc
