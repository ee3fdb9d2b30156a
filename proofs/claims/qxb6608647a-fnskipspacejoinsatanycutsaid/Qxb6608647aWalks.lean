/-
  THE WALKS of skipSpace and what stands round it (functions 8, 9, 10, 12, 13, 15, 21, 23, 24, 27).
-/
import Derived.Test.Qxb6608647aProg
import Derived.WalkKit
import Derived.WalkSpells
import Derived.WalkLawsBesides
import Derived.Deep.QuietTactic
import Derived.BigQuiet
import Derived.Deep.LoopGhost
import Derived.Lib.Bytealg
import Derived.Test.Qxb6608647aPlain
namespace Go.Proofs.Qxb6608647a.Sk
open Go.RowKit

theorem idx27 (s : ByteArray) (c : Int) (w : World) :
    Calls Try.prog 27 #[.string s, .int .u8 c] w fun e w' => e = .returned (.int .i64 (Lib.indexByte s.data.toList c.toNat.toUInt8)) ∧ w' = w := by
  go_enter Try.func27, Try.ntmps27
  go_wp2
  rw [run_callFunc_extern Try.func30 (by kernel_rfl) (by kernel_rfl) (by kernel_rfl) (e := Extern.BytealgIndexByte.indexByte) (by kernel_rfl), Lib.run_indexByteString]
  simp only [Result.andThen]
  rw [Oper.upon_value]
  go_wp2
  go_ret
  exact ⟨rfl, rfl⟩

theorem idx23 (s : ByteArray) (c : Int) (w : World) :
    Calls Try.prog 23 #[.string s, .int .u8 c] w fun e w' => e = .returned (.int .i64 (Lib.indexByte s.data.toList c.toNat.toUInt8)) ∧ w' = w := by
  go_enter Try.func23, Try.ntmps23
  go_wp2_with (go_at_call 27; refine (idx27 _ _ _).mono ?_; rintro e w' ⟨rfl, rfl⟩)
  go_ret
  exact ⟨rfl, rfl⟩

set_option maxHeartbeats 400000 in
theorem peek_end (s : ByteArray) (p : Nat) (b : Nat) (w : World) (h0 : w.cell? ⟨b, 0, none⟩ = some (.string s)) (h1 : w.cell? ⟨b, 1, none⟩ = some (.int .i64 p)) (hp : ((p : Int) == (s.size : Int)) = true) :
    Calls Try.prog 24 #[.pointer (some ⟨b, 0, none⟩)] w fun e w' => e = .returned (.int .u8 0) ∧ ∃ n, w' = w.drewN n := by
  go_enter Try.func24, Try.ntmps24
  go_wp2
  go_quiet (fail)
  go_wp2
  go_ret
  exact ⟨rfl, _, rfl⟩

set_option maxHeartbeats 400000 in
theorem peek_in (s : ByteArray) (p : Nat) (b : Nat) (w : World) (h0 : w.cell? ⟨b, 0, none⟩ = some (.string s)) (h1 : w.cell? ⟨b, 1, none⟩ = some (.int .i64 p)) (hp : ((p : Int) == (s.size : Int)) = false) (hlt : p < s.size) :
    Calls Try.prog 24 #[.pointer (some ⟨b, 0, none⟩)] w fun e w' => e = .returned (.int .u8 (s[p].toNat : Int)) ∧ ∃ n, w' = w.drewN n := by
  have hi : (p : Int) < (s.size : Int) := by omega
  go_enter Try.func24, Try.ntmps24
  go_wp2
  go_quiet (fail)
  go_wp2
  go_quiet (fail)
  go_wp2
  go_ret
  exact ⟨rfl, _, World.drewN_drewN _ _ _⟩

/-! ### What a call that stores into block b alone leaves -/
structure Sk (b : Nat) (w w' : World) : Prop where
  below : Below b w w'
  frozen : ∀ a, w'.frozen? a = w.frozen? a
  size : w'.heap.size = w.heap.size

theorem Sk.refl (b : Nat) (w : World) : Sk b w w := ⟨Below.refl _ _, fun _ => rfl, rfl⟩
theorem Sk.drewN {b : Nat} {w w' : World} (h : Sk b w w') (n : Nat) : Sk b w (w'.drewN n) :=
  ⟨h.below.trans ⟨rfl, rfl, rfl, Nat.le_refl _, fun _ _ => rfl⟩, h.frozen, h.size⟩
theorem Sk.setCell {b : Nat} {w w' : World} (h : Sk b w w') (o : Nat) (v : Value) : Sk b w (w'.setCell ⟨b, o, none⟩ v) :=
  ⟨h.below.setCell (Nat.le_refl _) v, fun a => (World.frozen?_setCell _ _ _ _).trans (h.frozen a), by rw [World.size_setCell]; exact h.size⟩
theorem Sk.trans {b : Nat} {w w' w'' : World} (h : Sk b w w') (k : Sk b w' w'') : Sk b w w'' :=
  ⟨h.below.trans k.below, fun a => (k.frozen a).trans (h.frozen a), k.size.trans h.size⟩
theorem Sk.grown {W w w' : World} {b : Nat} (g : Grown W w) (h : Sk b w w') (hb : W.heap.size ≤ b) : Grown W w' := by
  obtain ⟨⟨h1, h2, h3⟩, hf, hs⟩ := g
  refine ⟨⟨h.below.os.trans h1, h.below.output.trans h2, fun i hi => ?_⟩, fun a => (h.frozen a).trans (hf a), by rw [h.size]; exact hs⟩
  rw [h.below.block i (by omega)]
  exact h3 i hi

/-! ### strings.IndexByte over blank, tab, newline -/
theorem idx_yes (c : UInt8) (h : Plain.blank c = true) : (0 : Int) ≤ Lib.indexByte [32, 9, 10] c := by
  unfold Plain.blank at h
  simp only [Bool.or_eq_true, beq_iff_eq] at h
  rcases h with (rfl | rfl) | rfl <;> decide
theorem idx_no (c : UInt8) (h : Plain.blank c = false) : ¬ (0 : Int) ≤ Lib.indexByte [32, 9, 10] c := by
  unfold Plain.blank at h
  simp only [Bool.or_eq_false_iff, beq_eq_false_iff_ne] at h
  obtain ⟨⟨h1, h2⟩, h3⟩ := h
  have e1 : ((32 : UInt8) == c) = false := beq_eq_false_iff_ne.2 fun e => h1 e.symm
  have e2 : ((9 : UInt8) == c) = false := beq_eq_false_iff_ne.2 fun e => h2 e.symm
  have e3 : ((10 : UInt8) == c) = false := beq_eq_false_iff_ne.2 fun e => h3 e.symm
  simp [Lib.indexByte, e1, e2, e3]

theorem byte_back (c : UInt8) : ((c.toNat : Int)).toNat.toUInt8 = c := by
  rw [Int.toNat_natCast]; exact UInt8.ofNat_toNat

theorem idx_at_blank (c : UInt8) (w : World) (h : Plain.blank c = true) :
    Calls Try.prog 23 #[.string ⟨#[32, 9, 10]⟩, .int .u8 (c.toNat : Int)] w fun e w' => ∃ i : Int, 0 ≤ i ∧ e = .returned (.int .i64 i) ∧ w' = w := by
  refine (idx23 _ _ _).mono ?_
  rintro e w' ⟨rfl, rfl⟩
  exact ⟨_, idx_yes c h, by rw [byte_back], rfl⟩
theorem idx_at_other (c : UInt8) (w : World) (h : Plain.blank c = false) :
    Calls Try.prog 23 #[.string ⟨#[32, 9, 10]⟩, .int .u8 (c.toNat : Int)] w fun e w' => ∃ i : Int, i < 0 ∧ e = .returned (.int .i64 i) ∧ w' = w := by
  refine (idx23 _ _ _).mono ?_
  rintro e w' ⟨rfl, rfl⟩
  exact ⟨_, Int.not_le.1 (idx_no c h), by rw [byte_back], rfl⟩
theorem idx_at_zero (w : World) :
    Calls Try.prog 23 #[.string ⟨#[32, 9, 10]⟩, .int .u8 0] w fun e w' => ∃ i : Int, i < 0 ∧ e = .returned (.int .i64 i) ∧ w' = w :=
  idx_at_other 0 w (by decide)

set_option maxHeartbeats 1000000 in
theorem skip (s : ByteArray) (p : Nat) (d : Value) (b : Nat) (w : World) (hs : s.size ≤ 1048577) (hp : p ≤ s.size)
    (h0 : w.cell? ⟨b, 0, none⟩ = some (.string s)) (h1 : w.cell? ⟨b, 1, none⟩ = some (.int .i64 p)) (h2 : w.cell? ⟨b, 2, none⟩ = some d) (hf : w.frozen? ⟨b, 1, none⟩ = false) :
    Calls Try.prog 21 #[.pointer (some ⟨b, 0, none⟩)] w fun e w' => e = .returned (.tuple #[]) ∧ Sk b w w' ∧
      w'.cell? ⟨b, 0, none⟩ = some (.string s) ∧ w'.cell? ⟨b, 1, none⟩ = some (.int .i64 (Plain.stop s.data.toList p)) ∧ w'.cell? ⟨b, 2, none⟩ = some d := by
  have hsz : s.data.toList.length = s.size := rfl
  go_enter Try.func21, Try.ntmps21
  go_wp2
  go_loopg [] (s.size - p) (fun g wr => ∃ k : Nat, k ≤ s.size ∧ g = s.size - k ∧ Plain.stop s.data.toList k = Plain.stop s.data.toList p ∧ Sk b w wr ∧
    wr.cell? ⟨b, 0, none⟩ = some (.string s) ∧ wr.cell? ⟨b, 1, none⟩ = some (.int .i64 k) ∧ wr.cell? ⟨b, 2, none⟩ = some d)
  case atStart => exact ⟨p, hp, rfl, rfl, Sk.refl _ _, h0, h1, h2⟩
  case round =>
    obtain ⟨k, hk, hg, hst, hsk, c0, c1, c2⟩ := hrel
    have hfr : wr.frozen? ⟨b, 1, none⟩ = false := (hsk.frozen _).trans hf
    have A : Aside (Plain.stop s.data.toList k = Plain.stop s.data.toList p ∧ gk = s.size - k ∧ s.data.toList.length = s.size) := ⟨hst, hg, hsz⟩
    clear hst hg hsz h0 h1 h2 hf hp
    rcases Nat.lt_or_ge k s.size with hlt | hge
    · have hget : Hid (s.data.toList[k]? = some s[k]) := List.getElem?_eq_getElem (l := s.data.toList) hlt
      have hne : ((k : Int) == (s.size : Int)) = false := beq_eq_false_iff_ne.2 (by omega)
      cases hb : Plain.blank s[k]
      · go_wp2_with fail
        refine (peek_in s k b wr c0 c1 hne hlt).mono ?_
        rintro e w1 ⟨rfl, n, rfl⟩
        go_wp2_with fail
        refine (idx_at_other _ _ hb).mono ?_
        rintro e w1 ⟨i, hi, rfl, rfl⟩
        go_wp2_with fail
        go_end0
        have hst := A.out.1
        refine ⟨rfl, hsk.drewN n, c0, ?_, c2⟩
        rw [← hst, Plain.stop_other _ _ _ hget.out hb]
        exact c1
      · go_wp2_with fail
        refine (peek_in s k b wr c0 c1 hne hlt).mono ?_
        rintro e w1 ⟨rfl, n, rfl⟩
        go_wp2_with fail
        refine (idx_at_blank _ _ hb).mono ?_
        rintro e w1 ⟨i, hi, rfl, rfl⟩
        go_wp2_with fail
        go_roundg (s.size - (k + 1))
        case measure => have := A.out.2.1; omega
        case rel =>
          refine ⟨k + 1, by omega, rfl, ?_, ?_, ?_, ?_, ?_⟩
          · rw [← Plain.stop_blank _ _ _ hget.out hb]; exact A.out.1
          · exact (hsk.drewN n).setCell 1 _
          · rw [World.cell?_setCell_other _ _ _ _ (by simp)]; exact c0
          · rw [World.cell?_setCell_same (wr.drewN n) _ _ (u := .int .i64 k) c1]; simp
          · rw [World.cell?_setCell_other _ _ _ _ (by simp)]; exact c2
    · have hke : k = s.size := by omega
      subst hke
      have hne : ((s.size : Int) == (s.size : Int)) = true := beq_self_eq_true _
      go_wp2_with fail
      refine (peek_end s s.size b wr c0 c1 hne).mono ?_
      rintro e w1 ⟨rfl, n, rfl⟩
      go_wp2_with fail
      refine (idx_at_zero _).mono ?_
      rintro e w1 ⟨i, hi, rfl, rfl⟩
      go_wp2_with fail
      go_end0
      have hst := A.out.1
      refine ⟨rfl, hsk.drewN n, c0, ?_, c2⟩
      rw [← hst, Plain.stop_at_end _ _ A.out.2.2.symm]
      exact c1

/-- ZZskipSpace. -/
theorem zzskip (s : ByteArray) (p : Nat) (d : Value) (b : Nat) (w : World) (hs : s.size ≤ 1048577) (hp : p ≤ s.size)
    (h0 : w.cell? ⟨b, 0, none⟩ = some (.string s)) (h1 : w.cell? ⟨b, 1, none⟩ = some (.int .i64 p)) (h2 : w.cell? ⟨b, 2, none⟩ = some d) (hf : w.frozen? ⟨b, 1, none⟩ = false) :
    Calls Try.prog 9 #[.pointer (some ⟨b, 0, none⟩)] w fun e w' => e = .returned (.tuple #[]) ∧ Sk b w w' ∧
      w'.cell? ⟨b, 0, none⟩ = some (.string s) ∧ w'.cell? ⟨b, 1, none⟩ = some (.int .i64 (Plain.stop s.data.toList p)) ∧ w'.cell? ⟨b, 2, none⟩ = some d := by
  go_enter Try.func9, Try.ntmps9
  go_wp2_with fail
  refine (skip s p d b w hs hp h0 h1 h2 hf).mono ?_
  rintro e w1 ⟨rfl, q⟩
  go_wp2_with fail
  go_end0
  exact ⟨rfl, q⟩

/-- ZZnewParser. -/
theorem zznew (s : ByteArray) (p d : Int) (w : World) :
    Calls Try.prog 8 #[.string s, .int .i64 p, .int .i64 d] w fun e w' => e = .returned (.pointer (some ⟨w.heap.size, 0, none⟩)) ∧ w' = w.alloc (.cells #[.string s, .int .i64 p, .int .i64 d] 38) := by
  go_enter Try.func8, Try.ntmps8
  go_wp2
  go_ret
  exact ⟨rfl, rfl⟩

theorem zzpos (v : Int) (b : Nat) (w : World) (h1 : w.cell? ⟨b, 1, none⟩ = some (.int .i64 v)) :
    Calls Try.prog 10 #[.pointer (some ⟨b, 0, none⟩)] w fun e w' => e = .returned (.int .i64 v) ∧ w' = w := by
  go_enter Try.func10, Try.ntmps10
  go_wp2
  go_ret
  exact ⟨rfl, rfl⟩
theorem zztext (s : ByteArray) (b : Nat) (w : World) (h1 : w.cell? ⟨b, 0, none⟩ = some (.string s)) :
    Calls Try.prog 12 #[.pointer (some ⟨b, 0, none⟩)] w fun e w' => e = .returned (.string s) ∧ w' = w := by
  go_enter Try.func12, Try.ntmps12
  go_wp2
  go_ret
  exact ⟨rfl, rfl⟩
theorem zzdepth (v : Int) (b : Nat) (w : World) (h1 : w.cell? ⟨b, 2, none⟩ = some (.int .i64 v)) :
    Calls Try.prog 13 #[.pointer (some ⟨b, 0, none⟩)] w fun e w' => e = .returned (.int .i64 v) ∧ w' = w := by
  go_enter Try.func13, Try.ntmps13
  go_wp2
  go_ret
  exact ⟨rfl, rfl⟩

/-- isBlank. -/
theorem isBlank (c : UInt8) (w : World) :
    Calls Try.prog 15 #[.int .u8 (c.toNat : Int)] w fun e w' => e = .returned (.bool (Plain.blank c)) ∧ w' = w := by
  have key : Plain.blank c = (((c.toNat : Int) == 32) || ((c.toNat : Int) == 9) || ((c.toNat : Int) == 10)) := by
    rw [Bool.eq_iff_iff]
    unfold Plain.blank
    simp only [Bool.or_eq_true, beq_iff_eq, ← UInt8.toNat_inj]
    simp only [UInt8.reduceToNat]
    omega
  have K := key
  clear key
  cases h1 : ((c.toNat : Int) == 32) <;> cases h2 : ((c.toNat : Int) == 9) <;> cases h3 : ((c.toNat : Int) == 10)
  all_goals
    rw [h1, h2, h3] at K
    have K' : Hid _ := K
    clear K
    go_enter Try.func15, Try.ntmps15
    go_wp2
    go_ret
    exact ⟨by rw [K'.out]; rfl, rfl⟩

theorem bytes14 (s : ByteArray) (p d q : Int) (c : Int) (w : World) (h : s.size ≤ 1048576) :
    Calls Try.prog 14 #[.string s, .int .i64 p, .int .i64 d, .int .i64 q, .int .u8 c] w fun e w' => e = .returned (.bool true) ∧ w' = w := by
  go_enter Try.func14, Try.ntmps14
  go_wp2
  go_ret
  exact ⟨rfl, rfl⟩
theorem bytes14_no (s : ByteArray) (p d q : Int) (c : Int) (w : World) (h : 1048576 < s.size) (hm : s.size ≤ maxLen) :
    Calls Try.prog 14 #[.string s, .int .i64 p, .int .i64 d, .int .i64 q, .int .u8 c] w fun e w' => e = .returned (.bool false) ∧ w' = w := by
  unfold maxLen at hm
  go_enter Try.func14, Try.ntmps14
  go_wp2
  go_ret
  exact ⟨rfl, rfl⟩

end Go.Proofs.Qxb6608647a.Sk
