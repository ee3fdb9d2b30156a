/-
  THE WALK of FnSkipSpaceOneByteInsertedAnywhere.
-/
import Derived.Test.Qxb6608647aWalks
namespace Go.Proofs.Qxb6608647a.Ins
open Go.RowKit Go.Proofs.Qxb6608647a.Sk

theorem far (s : ByteArray) (p d q c : Int) (w : World) (hm : s.size ≤ maxLen) (h : 524288 < s.size) :
    Calls Try.prog 4 #[.string s, .int .i64 p, .int .i64 d, .int .i64 q, .int .u8 c] w fun e w' => e = .returned (.bool true) ∧ Grown w w' := by
  rcases Nat.lt_or_ge 1048576 s.size with g | g
  · go_enter Try.func4, Try.ntmps4
    go_wp2_with (go_at_call 14; refine (bytes14_no _ _ _ _ _ _ g hm).mono ?_; rintro e w' ⟨rfl, rfl⟩)
    go_ret
    exact ⟨rfl, Grown.refl _⟩
  · unfold maxLen at hm
    go_enter Try.func4, Try.ntmps4
    go_wp2_with (go_at_call 14; refine (bytes14 _ _ _ _ _ _ g).mono ?_; rintro e w' ⟨rfl, rfl⟩)
    go_ret
    exact ⟨rfl, Grown.refl _⟩

theorem out (s : ByteArray) (p d q c : Int) (w : World) (hm : s.size ≤ 524288) (h : p < 0 ∨ (s.size : Int) < p ∨ q < 0 ∨ (s.size : Int) < q) :
    Calls Try.prog 4 #[.string s, .int .i64 p, .int .i64 d, .int .i64 q, .int .u8 c] w fun e w' => e = .returned (.bool true) ∧ Grown w w' := by
  by_cases h1 : p < 0
  · go_enter Try.func4, Try.ntmps4
    go_wp2_with (go_at_call 14; refine (bytes14 _ _ _ _ _ _ (by omega)).mono ?_; rintro e w' ⟨rfl, rfl⟩)
    go_ret
    exact ⟨rfl, Grown.refl _⟩
  · by_cases h2 : (s.size : Int) < p
    · go_enter Try.func4, Try.ntmps4
      go_wp2_with (go_at_call 14; refine (bytes14 _ _ _ _ _ _ (by omega)).mono ?_; rintro e w' ⟨rfl, rfl⟩)
      go_ret
      exact ⟨rfl, Grown.refl _⟩
    · by_cases h3 : q < 0
      · go_enter Try.func4, Try.ntmps4
        go_wp2_with (go_at_call 14; refine (bytes14 _ _ _ _ _ _ (by omega)).mono ?_; rintro e w' ⟨rfl, rfl⟩)
        go_ret
        exact ⟨rfl, Grown.refl _⟩
      · have h4 : (s.size : Int) < q := by omega
        clear h
        go_enter Try.func4, Try.ntmps4
        go_wp2_with (go_at_call 14; refine (bytes14 _ _ _ _ _ _ (by omega)).mono ?_; rintro e w' ⟨rfl, rfl⟩)
        go_ret
        exact ⟨rfl, Grown.refl _⟩

theorem conv1 (c : UInt8) (w1 : World) (b : Nat) (hb : w1.heap.size = b) (n : Nat) :
    (convert 30 9 (.slice (some ⟨b, 0, none⟩) 1 1)).run Try.prog ((w1.alloc (.cells #[.int .u8 (c.toNat : Int)] 5)).drewN n) = .ok (.string ⟨#[c]⟩) ((w1.alloc (.cells #[.int .u8 (c.toNat : Int)] 5)).drewN n) := by
  subst hb
  refine run_convert_bytes_back (P := Try.prog) ((w1.alloc (.cells #[.int .u8 (c.toNat : Int)] 5)).drewN n) 30 9 5 ⟨w1.heap.size, 0, none⟩ 1 [c] Try.underlying30 Try.underlying5 Try.underlying9 ?_
  intro j hj
  have : j = 0 := by simpa using hj
  subst this
  rw [World.cell?_drewN]
  exact World.cell?_alloc_new _ _ _ _

theorem put_data (s : ByteArray) (q : Nat) (c : UInt8) : (s.extract 0 q ++ ⟨#[c]⟩ ++ s.extract q s.size).data.toList = Plain.put s.data.toList q c := by
  rw [ByteArray.data_append, ByteArray.data_append, Array.toList_append, Array.toList_append, Lib.extract_data, Lib.extract_data]
  unfold Plain.put
  rw [List.drop_zero, Nat.sub_zero]
  congr 1
  exact List.take_of_length_le (by rw [List.length_drop]; exact Nat.le_refl _)

theorem new3 (W : World) (B : Nat) (h : W.heap.size = B) (v0 v1 v2 : Value) :
    (W.alloc (.cells #[v0, v1, v2] 38)).cell? ⟨B, 0, none⟩ = some v0 ∧ (W.alloc (.cells #[v0, v1, v2] 38)).cell? ⟨B, 1, none⟩ = some v1 ∧
    (W.alloc (.cells #[v0, v1, v2] 38)).cell? ⟨B, 2, none⟩ = some v2 ∧ (W.alloc (.cells #[v0, v1, v2] 38)).frozen? ⟨B, 1, none⟩ = false := by
  subst h
  refine ⟨by rw [World.cell?_alloc_new]; rfl, by rw [World.cell?_alloc_new]; rfl, by rw [World.cell?_alloc_new]; rfl, ?_⟩
  rw [frozen?_alloc_cells]
  simp [World.frozen?]

set_option maxHeartbeats 1000000 in
theorem main (s : ByteArray) (p : Nat) (d : Int) (q : Nat) (c : UInt8) (w : World) (hm : s.size ≤ 524288) (hp : p ≤ s.size) (hq : q ≤ s.size) :
    Calls Try.prog 4 #[.string s, .int .i64 p, .int .i64 d, .int .i64 q, .int .u8 (c.toNat : Int)] w fun e w' => e = .returned (.bool true) ∧ Grown w w' := by
  go_enter Try.func4, Try.ntmps4
  go_wp2_with fail
  refine (bytes14 _ _ _ _ _ _ (by omega)).mono ?_
  rintro e w ⟨rfl, rfl⟩
  go_wp2_with fail
  refine (zznew _ _ _ _).mono ?_
  rintro e w1 ⟨rfl, rfl⟩
  go_wp2_with fail
  refine (zzskip s p (.int .i64 d) w.heap.size _ (by omega) hp (by simp) (by simp) (by simp) (by simp)).mono ?_
  rintro e w1 ⟨rfl, hsk, c0, c1, c2⟩
  have hE1 := Plain.stop_ge s.data.toList p
  have hE2 := Plain.stop_le s.data.toList p hp
  rw [show s.data.toList.length = s.size from rfl] at hE2
  generalize hE : Plain.stop s.data.toList p = E at *
  have HE : Hid (Plain.stop s.data.toList p = E) := hE
  clear hE
  have hz : w1.heap.size = w.heap.size + 1 := by rw [hsk.size]; simp
  have hg : Grown w w1 := Sk.grown ((Grown.refl _).alloc _ _) hsk (Nat.le_refl _)
  have kc := conv1 c w1 (w.heap.size + 1) hz
  have edq : (d != d) = false := bne_self_eq_false _
  clear hsk
  go_wp2_with (first
    | (go_at_call 10; refine (zzpos _ _ _ c1).mono ?_; rintro e w1 ⟨rfl, rfl⟩)
    | (go_at_call 12; refine (zztext _ _ _ c0).mono ?_; rintro e w1 ⟨rfl, rfl⟩)
    | (go_at_call 13; refine (zzdepth _ _ _ c2).mono ?_; rintro e w1 ⟨rfl, rfl⟩))
  have hq' : (q : Int) ≤ (s.size : Int) := by omega
  go_quiet (fail)
  have hG : Hid ((s.extract 0 q ++ ⟨#[c]⟩ ++ s.extract q s.size).data.toList = Plain.put s.data.toList q c) := put_data s q c
  have hGs : (s.extract 0 q ++ ⟨#[c]⟩ ++ s.extract q s.size).size = s.size + 1 := by
    have := Plain.put_length s.data.toList q c hq
    rw [← hG.out] at this
    exact this
  clear kc
  by_cases hqp : q < p
  · go_wp2_with fail
    generalize s.extract 0 q ++ ⟨#[c]⟩ ++ s.extract q s.size = G at *
    have hfin : Hid (Plain.stop G.data.toList (p + 1) = E + 1) := by
      have := Plain.put_before s.data.toList p q c hp hqp
      rw [← hG.out, HE.out] at this
      exact this
    refine (zznew _ _ _ _).mono ?_
    rintro e w2 ⟨rfl, rfl⟩
    go_wp2_with fail
    obtain ⟨n0, n1, n2, n3⟩ := new3 ((w1.alloc (.cells #[.int .u8 (c.toNat : Int)] 5)).drewN nq) (w.heap.size + 2) (by rw [World.heap_drewN, World.size_alloc, hz]) (.string G) (.int .i64 ((p : Int) + 1)) (.int .i64 d)
    have hg2 : Grown w (((w1.alloc (.cells #[.int .u8 (c.toNat : Int)] 5)).drewN nq).alloc (.cells #[.string G, .int .i64 ((p : Int) + 1), .int .i64 d] 38)) := Grown.alloc (w' := (w1.alloc (.cells #[.int .u8 (c.toNat : Int)] 5)).drewN nq) (Grown.alloc hg _ _) _ _
    refine (zzskip G (p + 1) (.int .i64 d) (w.heap.size + 2) _ (by omega) (by omega) n0 n1 n2 n3).mono ?_
    rintro e w3 ⟨rfl, hsk, d0, d1, d2⟩
    rw [hfin.out] at d1
    have hg3 := Sk.grown hg2 hsk (by omega)
    have eG : (G.toList == G.toList) = true := beq_self_eq_true _
    clear hsk n0 n1 n2 n3 c0 c1 c2 hg2 hg
    go_wp2_with (first
      | (go_at_call 15; refine (isBlank _ _).mono ?_; rintro e w3 ⟨rfl, rfl⟩)
      | (go_at_call 10; refine (zzpos _ _ _ d1).mono ?_; rintro e w3 ⟨rfl, rfl⟩)
      | (go_at_call 12; refine (zztext _ _ _ d0).mono ?_; rintro e w3 ⟨rfl, rfl⟩)
      | (go_at_call 13; refine (zzdepth _ _ _ d2).mono ?_; rintro e w3 ⟨rfl, rfl⟩))
    go_ret
    exact ⟨rfl, hg3⟩
  · have hpq : p ≤ q := by omega
    by_cases hqE : q ≤ E
    · cases hb : Plain.blank c
      · go_wp2_with fail
        generalize s.extract 0 q ++ ⟨#[c]⟩ ++ s.extract q s.size = G at *
        have hfin : Hid (Plain.stop G.data.toList p = q) := by
          have := Plain.put_other s.data.toList p q c hp hpq (by rw [HE.out]; exact hqE) hb
          rw [← hG.out] at this
          exact this
        refine (zznew _ _ _ _).mono ?_
        rintro e w2 ⟨rfl, rfl⟩
        go_wp2_with fail
        obtain ⟨n0, n1, n2, n3⟩ := new3 ((w1.alloc (.cells #[.int .u8 (c.toNat : Int)] 5)).drewN nq) (w.heap.size + 2) (by rw [World.heap_drewN, World.size_alloc, hz]) (.string G) (.int .i64 p) (.int .i64 d)
        have hg2 : Grown w (((w1.alloc (.cells #[.int .u8 (c.toNat : Int)] 5)).drewN nq).alloc (.cells #[.string G, .int .i64 p, .int .i64 d] 38)) := Grown.alloc (w' := (w1.alloc (.cells #[.int .u8 (c.toNat : Int)] 5)).drewN nq) (Grown.alloc hg _ _) _ _
        refine (zzskip G p (.int .i64 d) (w.heap.size + 2) _ (by omega) (by omega) n0 n1 n2 n3).mono ?_
        rintro e w3 ⟨rfl, hsk, d0, d1, d2⟩
        rw [hfin.out] at d1
        have hg3 := Sk.grown hg2 hsk (by omega)
        have eG : (G.toList == G.toList) = true := beq_self_eq_true _
        clear hsk n0 n1 n2 n3 c0 c1 c2 hg2 hg
        go_wp2_with (first
          | (go_at_call 15; refine (isBlank _ _).mono ?_; rintro e w3 ⟨rfl, rfl⟩)
          | (go_at_call 10; refine (zzpos _ _ _ d1).mono ?_; rintro e w3 ⟨rfl, rfl⟩)
          | (go_at_call 12; refine (zztext _ _ _ d0).mono ?_; rintro e w3 ⟨rfl, rfl⟩)
          | (go_at_call 13; refine (zzdepth _ _ _ d2).mono ?_; rintro e w3 ⟨rfl, rfl⟩))
        go_ret
        exact ⟨rfl, hg3⟩
      · go_wp2_with fail
        generalize s.extract 0 q ++ ⟨#[c]⟩ ++ s.extract q s.size = G at *
        have hfin : Hid (Plain.stop G.data.toList p = E + 1) := by
          have := Plain.put_blank s.data.toList p q c hp hpq (by rw [HE.out]; exact hqE) hb
          rw [← hG.out, HE.out] at this
          exact this
        refine (zznew _ _ _ _).mono ?_
        rintro e w2 ⟨rfl, rfl⟩
        go_wp2_with fail
        obtain ⟨n0, n1, n2, n3⟩ := new3 ((w1.alloc (.cells #[.int .u8 (c.toNat : Int)] 5)).drewN nq) (w.heap.size + 2) (by rw [World.heap_drewN, World.size_alloc, hz]) (.string G) (.int .i64 p) (.int .i64 d)
        have hg2 : Grown w (((w1.alloc (.cells #[.int .u8 (c.toNat : Int)] 5)).drewN nq).alloc (.cells #[.string G, .int .i64 p, .int .i64 d] 38)) := Grown.alloc (w' := (w1.alloc (.cells #[.int .u8 (c.toNat : Int)] 5)).drewN nq) (Grown.alloc hg _ _) _ _
        refine (zzskip G p (.int .i64 d) (w.heap.size + 2) _ (by omega) (by omega) n0 n1 n2 n3).mono ?_
        rintro e w3 ⟨rfl, hsk, d0, d1, d2⟩
        rw [hfin.out] at d1
        have hg3 := Sk.grown hg2 hsk (by omega)
        have eG : (G.toList == G.toList) = true := beq_self_eq_true _
        clear hsk n0 n1 n2 n3 c0 c1 c2 hg2 hg
        go_wp2_with (first
          | (go_at_call 15; refine (isBlank _ _).mono ?_; rintro e w3 ⟨rfl, rfl⟩)
          | (go_at_call 10; refine (zzpos _ _ _ d1).mono ?_; rintro e w3 ⟨rfl, rfl⟩)
          | (go_at_call 12; refine (zztext _ _ _ d0).mono ?_; rintro e w3 ⟨rfl, rfl⟩)
          | (go_at_call 13; refine (zzdepth _ _ _ d2).mono ?_; rintro e w3 ⟨rfl, rfl⟩))
        go_ret
        exact ⟨rfl, hg3⟩
    · go_wp2_with fail
      generalize s.extract 0 q ++ ⟨#[c]⟩ ++ s.extract q s.size = G at *
      have hfin : Hid (Plain.stop G.data.toList p = E) := by
        have := Plain.put_behind s.data.toList p q c hp hq (by rw [HE.out]; omega)
        rw [← hG.out, HE.out] at this
        exact this
      refine (zznew _ _ _ _).mono ?_
      rintro e w2 ⟨rfl, rfl⟩
      go_wp2_with fail
      obtain ⟨n0, n1, n2, n3⟩ := new3 ((w1.alloc (.cells #[.int .u8 (c.toNat : Int)] 5)).drewN nq) (w.heap.size + 2) (by rw [World.heap_drewN, World.size_alloc, hz]) (.string G) (.int .i64 p) (.int .i64 d)
      have hg2 : Grown w (((w1.alloc (.cells #[.int .u8 (c.toNat : Int)] 5)).drewN nq).alloc (.cells #[.string G, .int .i64 p, .int .i64 d] 38)) := Grown.alloc (w' := (w1.alloc (.cells #[.int .u8 (c.toNat : Int)] 5)).drewN nq) (Grown.alloc hg _ _) _ _
      refine (zzskip G p (.int .i64 d) (w.heap.size + 2) _ (by omega) (by omega) n0 n1 n2 n3).mono ?_
      rintro e w3 ⟨rfl, hsk, d0, d1, d2⟩
      rw [hfin.out] at d1
      have hg3 := Sk.grown hg2 hsk (by omega)
      have eG : (G.toList == G.toList) = true := beq_self_eq_true _
      clear hsk n0 n1 n2 n3 c0 c1 c2 hg2 hg
      go_wp2_with (first
        | (go_at_call 15; refine (isBlank _ _).mono ?_; rintro e w3 ⟨rfl, rfl⟩)
        | (go_at_call 10; refine (zzpos _ _ _ d1).mono ?_; rintro e w3 ⟨rfl, rfl⟩)
        | (go_at_call 12; refine (zztext _ _ _ d0).mono ?_; rintro e w3 ⟨rfl, rfl⟩)
        | (go_at_call 13; refine (zzdepth _ _ _ d2).mono ?_; rintro e w3 ⟨rfl, rfl⟩))
      go_ret
      exact ⟨rfl, hg3⟩

end Go.Proofs.Qxb6608647a.Ins
