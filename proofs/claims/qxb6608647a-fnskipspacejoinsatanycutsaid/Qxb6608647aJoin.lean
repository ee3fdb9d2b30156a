/-
  THE WALK of FnSkipSpaceJoinsAtAnyCut.
-/
import Derived.Test.Qxb6608647aInsert
namespace Go.Proofs.Qxb6608647a.Jn
open Go.RowKit Go.Proofs.Qxb6608647a.Sk Go.Proofs.Qxb6608647a.Ins

theorem bytes7 (a b : ByteArray) (p d : Int) (w : World) (h : a.size + b.size ≤ 1048576) :
    Calls Try.prog 7 #[.string a, .string b, .int .i64 p, .int .i64 d] w fun e w' => e = .returned (.bool true) ∧ w' = w := by
  go_enter Try.func7, Try.ntmps7
  go_wp2
  go_ret
  exact ⟨rfl, rfl⟩
theorem bytes7_no (a b : ByteArray) (p d : Int) (w : World) (ha : a.size ≤ maxLen) (hb : b.size ≤ maxLen) (h : 1048576 < a.size + b.size) :
    Calls Try.prog 7 #[.string a, .string b, .int .i64 p, .int .i64 d] w fun e w' => e = .returned (.bool false) ∧ w' = w := by
  unfold maxLen at ha hb
  by_cases h1 : 1048576 < a.size
  · go_enter Try.func7, Try.ntmps7
    go_wp2
    go_ret
    exact ⟨rfl, rfl⟩
  · by_cases h2 : 1048576 < b.size
    · go_enter Try.func7, Try.ntmps7
      go_wp2
      go_ret
      exact ⟨rfl, rfl⟩
    · go_enter Try.func7, Try.ntmps7
      go_wp2
      go_ret
      exact ⟨rfl, rfl⟩

set_option maxHeartbeats 400000 in
theorem runEnd (s : ByteArray) (p : Nat) (w : World) (hs : s.size ≤ 1048577) (hp : p ≤ s.size) :
    Calls Try.prog 11 #[.string s, .int .i64 p] w fun e w' => e = .returned (.int .i64 (Plain.stop s.data.toList p)) ∧ w' = w := by
  have hsz : Hid (s.data.toList.length = s.size) := rfl
  go_enter Try.func11, Try.ntmps11
  go_wp2
  go_loop [1] (fun i => ∃ k : Nat, k ≤ s.size ∧ i = .int .i64 k ∧ Hid (Plain.stop s.data.toList k = Plain.stop s.data.toList p)) (fun i => s.size - (intOf i).toNat)
  case atStart => exact ⟨p, hp, rfl, rfl⟩
  case round =>
    obtain ⟨k, hk, rfl, hst⟩ := hrel
    rcases Nat.lt_or_ge k s.size with hlt | hge
    · have hget : Hid (s.data.toList[k]? = some s[k]) := List.getElem?_eq_getElem (l := s.data.toList) hlt
      have hi : (k : Int) < (s.size : Int) := by omega
      cases hb : Plain.blank s[k]
      · go_wp2_with (go_at_call 15; refine (isBlank _ _).mono ?_; rintro e w3 ⟨rfl, rfl⟩)
        go_ret
        refine ⟨?_, rfl⟩
        rw [← hst.out, Plain.stop_other _ _ _ hget.out hb]
        rfl
      · go_wp2_with (go_at_call 15; refine (isBlank _ _).mono ?_; rintro e w3 ⟨rfl, rfl⟩)
        go_round
        case rel => exact ⟨k + 1, by omega, by go_num, (Plain.stop_blank _ _ _ hget.out hb).symm.trans hst.out⟩
        case measure => simp [intOf]; omega
    · have hi : ¬ (k : Int) < (s.size : Int) := by omega
      go_wp2_with fail
      go_ret
      refine ⟨?_, rfl⟩
      rw [← hst.out, Plain.stop_at_end _ _ (by have := hsz.out; omega)]
      rfl

theorem far (a b : ByteArray) (p d : Int) (w : World) (ha : a.size ≤ maxLen) (hb : b.size ≤ maxLen) (h : 524288 < a.size ∨ 524288 < b.size) :
    Calls Try.prog 3 #[.string a, .string b, .int .i64 p, .int .i64 d] w fun e w' => e = .returned (.bool true) ∧ Grown w w' := by
  rcases Nat.lt_or_ge 1048576 (a.size + b.size) with g | g
  · go_enter Try.func3, Try.ntmps3
    go_wp2_with (go_at_call 7; refine (bytes7_no _ _ _ _ _ ha hb g).mono ?_; rintro e w' ⟨rfl, rfl⟩)
    go_ret
    exact ⟨rfl, Grown.refl _⟩
  · unfold maxLen at ha hb
    by_cases h1 : 524288 < a.size
    · go_enter Try.func3, Try.ntmps3
      go_wp2_with (go_at_call 7; refine (bytes7 _ _ _ _ _ g).mono ?_; rintro e w' ⟨rfl, rfl⟩)
      go_ret
      exact ⟨rfl, Grown.refl _⟩
    · have h2 : 524288 < b.size := by omega
      go_enter Try.func3, Try.ntmps3
      go_wp2_with (go_at_call 7; refine (bytes7 _ _ _ _ _ g).mono ?_; rintro e w' ⟨rfl, rfl⟩)
      go_ret
      exact ⟨rfl, Grown.refl _⟩

theorem out (a b : ByteArray) (p d : Int) (w : World) (ha : a.size ≤ 524288) (hb : b.size ≤ 524288) (h : p < 0 ∨ (a.size : Int) < p) :
    Calls Try.prog 3 #[.string a, .string b, .int .i64 p, .int .i64 d] w fun e w' => e = .returned (.bool true) ∧ Grown w w' := by
  by_cases h1 : p < 0
  · go_enter Try.func3, Try.ntmps3
    go_wp2_with (go_at_call 7; refine (bytes7 _ _ _ _ _ (by omega)).mono ?_; rintro e w' ⟨rfl, rfl⟩)
    go_ret
    exact ⟨rfl, Grown.refl _⟩
  · have h2 : (a.size : Int) < p := by omega
    clear h
    go_enter Try.func3, Try.ntmps3
    go_wp2_with (go_at_call 7; refine (bytes7 _ _ _ _ _ (by omega)).mono ?_; rintro e w' ⟨rfl, rfl⟩)
    go_ret
    exact ⟨rfl, Grown.refl _⟩

set_option maxHeartbeats 1000000 in
theorem main (a b : ByteArray) (p : Nat) (d : Int) (w : World) (ha : a.size ≤ 524288) (hb : b.size ≤ 524288) (hp : p ≤ a.size) :
    Calls Try.prog 3 #[.string a, .string b, .int .i64 p, .int .i64 d] w fun e w' => e = .returned (.bool true) ∧ Grown w w' := by
  go_enter Try.func3, Try.ntmps3
  go_wp2_with fail
  refine (bytes7 _ _ _ _ _ (by omega)).mono ?_
  rintro e w ⟨rfl, rfl⟩
  go_wp2_with fail
  refine (zznew _ _ _ _).mono ?_
  rintro e w1 ⟨rfl, rfl⟩
  go_wp2_with fail
  refine (zzskip a p (.int .i64 d) w.heap.size _ (by omega) hp (by simp) (by simp) (by simp) (by simp)).mono ?_
  rintro e w1 ⟨rfl, hsk, c0, c1, c2⟩
  have hE1 := Plain.stop_ge a.data.toList p
  have hE2 := Plain.stop_le a.data.toList p hp
  rw [show a.data.toList.length = a.size from rfl] at hE2
  have hre : ∀ w, Calls Try.prog 11 #[.string a, .int .i64 p] w fun e w' => e = .returned (.int .i64 (Plain.stop a.data.toList p)) ∧ w' = w := fun w => runEnd a p w (by omega) hp
  generalize hE : Plain.stop a.data.toList p = E at *
  have HE : Hid (Plain.stop a.data.toList p = E) := hE
  have HR : Hid (∀ w, Calls Try.prog 11 #[.string a, .int .i64 p] w fun e w' => e = .returned (.int .i64 (E : Int)) ∧ w' = w) := hre
  clear hE hre
  have hz : w1.heap.size = w.heap.size + 1 := by rw [hsk.size]; simp
  have hg : Grown w w1 := Sk.grown ((Grown.refl _).alloc _ _) hsk (Nat.le_refl _)
  have edq : (d != d) = false := bne_self_eq_false _
  have eEq : ((E : Int) != (E : Int)) = false := bne_self_eq_false _
  clear hsk
  go_wp2_with (first
    | (go_at_call 11; refine (HR.out _).mono ?_; rintro e w1 ⟨rfl, rfl⟩)
    | (go_at_call 10; refine (zzpos _ _ _ c1).mono ?_; rintro e w1 ⟨rfl, rfl⟩)
    | (go_at_call 12; refine (zztext _ _ _ c0).mono ?_; rintro e w1 ⟨rfl, rfl⟩)
    | (go_at_call 13; refine (zzdepth _ _ _ c2).mono ?_; rintro e w1 ⟨rfl, rfl⟩))
  have hG : Hid ((a ++ b).data.toList = a.data.toList ++ b.data.toList) := by
    show _ = _
    rw [ByteArray.data_append, Array.toList_append]
  have hGs : (a ++ b).size = a.size + b.size := ByteArray.size_append
  generalize a ++ b = G at *
  refine (zznew _ _ _ _).mono ?_
  rintro e w2 ⟨rfl, rfl⟩
  go_wp2_with fail
  obtain ⟨n0, n1, n2, n3⟩ := new3 w1 (w.heap.size + 1) hz (.string G) (.int .i64 p) (.int .i64 d)
  have hg2 : Grown w (w1.alloc (.cells #[.string G, .int .i64 p, .int .i64 d] 38)) := hg.alloc _ _
  refine (zzskip G p (.int .i64 d) (w.heap.size + 1) _ (by omega) (by omega) n0 n1 n2 n3).mono ?_
  rintro e w2 ⟨rfl, hsk, d0, d1, d2⟩
  have hg3 := Sk.grown hg2 hsk (by omega)
  have hz2 : w2.heap.size = w.heap.size + 2 := by rw [hsk.size, World.size_alloc, hz]
  have eG : (G.toList == G.toList) = true := beq_self_eq_true _
  clear hsk n0 n1 n2 n3 c0 c1 c2 hg2 hg eEq
  by_cases hEa : E = a.size
  · have hfin : Hid (Plain.stop G.data.toList p = a.size + Plain.stop b.data.toList 0) := by
      have := Plain.join_long a.data.toList b.data.toList p hp (HE.out.trans hEa)
      rw [← hG.out] at this
      exact this
    rw [hfin.out] at d1
    have hb1 : Plain.stop b.data.toList 0 ≤ b.size := Plain.stop_le b.data.toList 0 (Nat.zero_le _)
    have heq : ((E : Int) == (a.size : Int)) = true := beq_iff_eq.2 (by omega)
    have HEa : Hid (E = a.size) := hEa
    clear hEa
    generalize hM : Plain.stop b.data.toList 0 = M at *
    have HM : Hid (Plain.stop b.data.toList 0 = M) := hM
    clear hM
    go_wp2_with fail
    refine (zznew _ _ _ _).mono ?_
    rintro e w3 ⟨rfl, rfl⟩
    go_wp2_with fail
    obtain ⟨n0, n1, n2, n3⟩ := new3 w2 (w.heap.size + 2) hz2 (.string b) (.int .i64 0) (.int .i64 d)
    have hg4 : Grown w (w2.alloc (.cells #[.string b, .int .i64 0, .int .i64 d] 38)) := hg3.alloc _ _
    refine (zzskip b 0 (.int .i64 d) (w.heap.size + 2) _ (by omega) (by omega) n0 n1 n2 n3).mono ?_
    rintro e w4 ⟨rfl, hsk, f0, f1, f2⟩
    rw [HM.out] at f1
    have hg5 := Sk.grown hg4 hsk (by omega)
    have hold : ∀ o, w4.cell? ⟨w.heap.size + 1, o, none⟩ = w2.cell? ⟨w.heap.size + 1, o, none⟩ := fun o =>
      (hsk.below.cell (p := ⟨w.heap.size + 1, o, none⟩) (by simp)).trans (World.cell?_alloc_lt _ _ _ (by simp [hz2]))
    rw [← hold] at d0 d1 d2
    clear hold hsk n0 n1 n2 n3 hg4 hg3
    go_wp2_with fail
    refine (zzpos _ _ _ f1).mono ?_
    rintro e w4 ⟨rfl, rfl⟩
    have hfe : (((a.size + M : Nat) : Int) == (a.size : Int) + (M : Int)) = true := beq_iff_eq.2 (by omega)
    go_wp2_with (first
      | (go_at_call 10; refine (zzpos _ _ _ d1).mono ?_; rintro e w4 ⟨rfl, rfl⟩)
      | (go_at_call 12; refine (zztext _ _ _ d0).mono ?_; rintro e w4 ⟨rfl, rfl⟩)
      | (go_at_call 13; refine (zzdepth _ _ _ d2).mono ?_; rintro e w4 ⟨rfl, rfl⟩))
    go_ret
    exact ⟨rfl, hg5⟩
  · have hfin : Hid (Plain.stop G.data.toList p = E) := by
      have := Plain.join_short a.data.toList b.data.toList p hp (by rw [HE.out]; exact hEa)
      rw [← hG.out, HE.out] at this
      exact this
    rw [hfin.out] at d1
    have heq : ((E : Int) == (a.size : Int)) = false := beq_eq_false_iff_ne.2 (by omega)
    have eEq : ((E : Int) == (E : Int)) = true := beq_self_eq_true _
    clear hEa
    go_wp2_with (first
      | (go_at_call 10; refine (zzpos _ _ _ d1).mono ?_; rintro e w2 ⟨rfl, rfl⟩)
      | (go_at_call 12; refine (zztext _ _ _ d0).mono ?_; rintro e w2 ⟨rfl, rfl⟩)
      | (go_at_call 13; refine (zzdepth _ _ _ d2).mono ?_; rintro e w2 ⟨rfl, rfl⟩))
    go_ret
    exact ⟨rfl, hg3⟩
end Go.Proofs.Qxb6608647a.Jn
