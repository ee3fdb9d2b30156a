/-
  THE WALK of FnTraceScannerGivesEachWholeLine.
-/
import Derived.Test.Qxb6608719aDoorScan
namespace Go.Proofs.Qxb6608719aDoor.Gv
open Go.RowKit Go.Proofs.Qxb6608719aDoor.Sc

theorem bytes7 (s : ByteArray) (L : Int) (w : World) (h : s.size ≤ 1048576) :
    Calls Tryd.prog 7 #[.string s, .int .i64 L] w fun e w' => e = .returned (.bool true) ∧ w' = w := by
  go_enter Tryd.func7, Tryd.ntmps7
  go_wp2
  go_ret
  exact ⟨rfl, rfl⟩
theorem bytes7_no (s : ByteArray) (L : Int) (w : World) (hm : s.size ≤ maxLen) (h : 1048576 < s.size) :
    Calls Tryd.prog 7 #[.string s, .int .i64 L] w fun e w' => e = .returned (.bool false) ∧ w' = w := by
  unfold maxLen at hm
  go_enter Tryd.func7, Tryd.ntmps7
  go_wp2
  go_ret
  exact ⟨rfl, rfl⟩

set_option maxRecDepth 100000 in
theorem far (s : ByteArray) (L : Int) (w : World) (hm : s.size ≤ maxLen) (h : 1048576 < s.size) :
    Calls Tryd.prog 3 #[.string s, .int .i64 L] w fun e w' => e = .returned (.bool true) ∧ Below w.heap.size w w' := by
  go_enter Tryd.func3, Tryd.ntmps3
  go_wp2_with (go_at_call 7; refine (bytes7_no _ _ _ hm h).mono ?_; rintro e w' ⟨rfl, rfl⟩)
  go_ret
  exact ⟨rfl, Below.refl _ _⟩

set_option maxRecDepth 100000 in
theorem out (s : ByteArray) (L : Int) (w : World) (h : s.size ≤ 1048576) (hL : L < 0 ∨ 9223372036854775807 ≤ L) :
    Calls Tryd.prog 3 #[.string s, .int .i64 L] w fun e w' => e = .returned (.bool true) ∧ Below w.heap.size w w' := by
  by_cases h1 : L < 0
  · go_enter Tryd.func3, Tryd.ntmps3
    go_wp2_with (go_at_call 7; refine (bytes7 _ _ _ h).mono ?_; rintro e w' ⟨rfl, rfl⟩)
    go_ret
    exact ⟨rfl, Below.refl _ _⟩
  · have h2 : 9223372036854775807 ≤ L := by omega
    clear hL
    go_enter Tryd.func3, Tryd.ntmps3
    go_wp2_with (go_at_call 7; refine (bytes7 _ _ _ h).mono ?_; rintro e w' ⟨rfl, rfl⟩)
    go_ret
    exact ⟨rfl, Below.refl _ _⟩

set_option maxRecDepth 100000 in
set_option maxHeartbeats 2000000 in
theorem main (s : ByteArray) (L : Int) (pa : Addr) (w : World) (h : s.size ≤ 1048576) (h0 : 0 ≤ L) (h1 : L < 9223372036854775807) (h4 : 4 < w.heap.size) (hg : w.cell? ⟨4, 0, none⟩ = some (EV pa)) :
    Calls Tryd.prog 3 #[.string s, .int .i64 L] w fun e w' => e = .returned (.bool true) ∧ Below w.heap.size w w' := by
  have HG := hid hg
  clear hg
  have hsz : Hid (s.data.toList.length = s.size) := rfl
  go_enter Tryd.func3, Tryd.ntmps3
  go_wp2_with fail
  refine (bytes7 _ _ _ h).mono ?_
  rintro e w ⟨rfl, rfl⟩
  go_wp2_with fail
  refine (zznew _ _ _ h0 h1).mono ?_
  rintro e w1 ⟨rfl, rfl⟩
  have hE := envOf_ok s L w.heap.size pa w h h0 h1 (Nat.le_refl _) h4
  have hS0 := hid (made_st s L w.heap.size pa w h0 (Nat.le_refl _) h4 HG.out)
  have hB0 : Below w.heap.size w (made w.heap.size L (first L) (w.alloc (.cells #[.string s, .int .i64 0, .int .i64 (-1)] 58))).drew :=
    ((Below.refl _ _).alloc (Nat.le_refl _) _).trans (made_below _ _ _ _ _ (by simp))
  generalize (made w.heap.size L (first L) (w.alloc (.cells #[.string s, .int .i64 0, .int .i64 (-1)] 58))).drew = w1 at *
  have HE := hid hE
  clear hE
  go_wp2_with fail
  go_loopg [6, 7] s.size (fun g v6 v7 wr => ∃ p n : Nat, n ≤ p ∧ p ≤ s.size ∧ g = s.size - p ∧ v6 = .int .i64 (p : Int) ∧ v7 = .int .i64 (n : Int) ∧ Hid (Below w.heap.size w wr) ∧ Hid (∃ bb m st e, St (envOf s L w.heap.size pa w) bb m p st e 0 .nilIface wr))
  case atStart => exact ⟨0, 0, Nat.le_refl _, Nat.zero_le _, rfl, rfl, rfl, hB0, ⟨_, _, _, _, hS0.out⟩⟩
  case round =>
    obtain ⟨p, n, hnp, hps, hgk, rfl, rfl, hb, hst⟩ := hrel
    have HGK := hid hgk
    clear hgk hS0 hB0
    obtain ⟨bb, m, st, e, hS⟩ := hst.out
    have hHS := hid hS
    clear hS hst
    have hni : (n : Int) ≤ (s.size : Int) := by omega
    rcases Plain.nl_cases (s.data.toList.drop p) with hno | ⟨i, hi⟩
    · have HNO := hid hno
      clear hno
      go_wp2_with (go_at_call 9; refine (inf_no s p _ (by omega) hps HNO.out).mono ?_; rintro r wr ⟨rfl, rfl⟩)
      refine (zzscan (envOf s L w.heap.size pa w) HE.out bb m p st e wr hHS.out).mono ?_
      intro r w2 ho
      obtain ⟨hb2, ho2⟩ := ho
      rcases ho2 with ⟨i, _, _, _, _, hi, _⟩ | ⟨_, hr, c0, c4, c7, cg⟩
      · exact absurd hi.1 (HNO.out i)
      subst hr
      have hbel := hid (hb.out.trans hb2)
      have HC7 := hid c7
      have HCG := hid cg
      have HC0 := hid c0
      have HC4 : Hid (w2.cell? ⟨w.heap.size + 2, 4, none⟩ = some (.int .i64 ((s.size - p : Nat) : Int))) := c4
      have ecmp : (((s.size - p : Nat) : Int) == (s.size : Int) - (p : Int)) = true := beq_iff_eq.2 (by omega)
      clear c7 cg c0 c4 hb2
      generalize hd : ((s.size - p : Nat) : Int) = dd at *
      have HD := hid hd
      clear hd
      go_wp2_with (first
        | (go_at_call 11; refine (zzerr (w.heap.size + 2) (w.heap.size + 1) pa _ HC0.out HC7.out HCG.out).mono ?_; rintro r w3 ⟨rfl, k3, rfl⟩)
        | (go_at_call 12; refine (zztail dd (w.heap.size + 2) (w2.drewN k3) HC4.out).mono ?_; rintro r w4 ⟨rfl, rfl⟩))
      go_ret
      exact ⟨rfl, belowN hbel.out _⟩
    · have hil := hi.lt
      rw [List.length_drop, hsz.out] at hil
      have HI := hid hi
      clear hi
      go_wp2_with (go_at_call 9; refine (inf_at s p i _ (by omega) HI.out).mono ?_; rintro r wr ⟨rfl, rfl⟩)
      refine (zzscan (envOf s L w.heap.size pa w) HE.out bb m p st e wr hHS.out).mono ?_
      intro r w2 ho
      obtain ⟨hb2, ho2⟩ := ho
      rcases ho2 with ⟨i', bb2, m2, st2, e2, hi', hr, hS2, a, k, ht1, ht2⟩ | ⟨hno, _⟩
      rotate_left
      · exact absurd HI.out.1 (hno i)
      have hii : i' = i := Plain.NlAt.uniq hi' HI.out
      subst hii
      subst hr
      have hbel := hid (hb.out.trans hb2)
      obtain ⟨O2, R2, hsc2⟩ := hS2.scn
      have HC0 := hid hsc2.c0
      have HS2 := hid hS2
      clear hsc2 hS2 hb2 hi'
      by_cases hL : (i' : Int) ≤ L
      · obtain ⟨t3, hrow, ho3⟩ := ht1 hL
        have HT := hid t3
        have HO3 : Hid (w2.cell? ⟨w.heap.size + 2, 3, none⟩ = some (.int .i64 0)) := ho3
        have e3 : (s.extract p (p + i')).data.toList = (s.data.toList.drop p).take i' := by
          rw [Lib.extract_data, Nat.add_sub_cancel_left]
        have hrow3 : Hid (RowAt w2 bb2 a (s.extract p (p + i')).data.toList) := by rw [e3]; exact hrow
        have hsz3 : (s.extract p (p + i')).size = i' := by
          show (s.extract p (p + i')).data.toList.length = i'
          rw [e3, List.length_take, List.length_drop, hsz.out]; omega
        clear t3 hrow ho3 ht1 ht2 e3
        go_wp2_with (first
          | (go_at_call 13; refine (zzbytes (w.heap.size + 2) (w.heap.size + 1) _ _ _ _ HC0.out HT.out).mono ?_; rintro r w2 ⟨rfl, rfl⟩)
          | (go_at_call 14; refine (same _ _ _ _ _ _ hsz3 (by omega) hrow3.out).mono ?_; rintro r w4 ⟨rfl, k4, rfl⟩)
          | (go_at_call 15; refine (zzover 0 (w.heap.size + 2) (w2.drewN k4) HO3.out).mono ?_; rintro r w5 ⟨rfl, rfl⟩))
        go_roundg (s.size - (p + i' + 1))
        case measure => have := HGK.out; omega
        case rel => exact ⟨p + i' + 1, n + 1, by omega, by omega, rfl, by go_num, by go_num, belowN hbel.out _, ⟨_, _, _, _, HS2.out.drewN _⟩⟩
      · have hL' : L < (i' : Int) := by omega
        obtain ⟨t3, ho3⟩ := ht2 hL'
        have HT := hid t3
        have HO3 : Hid (w2.cell? ⟨w.heap.size + 2, 3, none⟩ = some (.int .i64 (i' : Int))) := ho3
        have hsz3 : (s.extract p (p + i')).size = i' := by
          show (s.extract p (p + i')).data.toList.length = i'
          rw [Lib.extract_data, List.length_take, List.length_drop, hsz.out]; omega
        have eq2 : ((i' : Int) != (i' : Int)) = false := bne_self_eq_false _
        clear t3 ho3 ht1 ht2
        go_wp2_with (first
          | (go_at_call 13; refine (zzbytes (w.heap.size + 2) (w.heap.size + 1) _ _ _ _ HC0.out HT.out).mono ?_; rintro r w2 ⟨rfl, rfl⟩)
          | (go_at_call 15; refine (zzover (i' : Int) (w.heap.size + 2) w2 HO3.out).mono ?_; rintro r w2 ⟨rfl, rfl⟩))
        go_roundg (s.size - (p + i' + 1))
        case measure => have := HGK.out; omega
        case rel => exact ⟨p + i' + 1, n + 1, by omega, by omega, rfl, by go_num, by go_num, hbel.out, ⟨_, _, _, _, HS2.out⟩⟩

end Go.Proofs.Qxb6608719aDoor.Gv
