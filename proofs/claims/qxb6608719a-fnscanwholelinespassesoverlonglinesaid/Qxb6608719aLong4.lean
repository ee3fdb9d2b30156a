/-
  THE WALK of FnScanWholeLinesPassesOverLongLine: the way to the end where the first piece waits.
-/
import Derived.Test.Qxb6608719aLong3
namespace Go.Proofs.Qxb6608719a.Ln
open Go.RowKit Go.Proofs.Qxb6608719a.Sc

set_option maxRecDepth 100000 in
set_option maxHeartbeats 2000000 in
theorem mainW (L : Int) (x y : Addr) (n m c d i : Nat) (la lb : List UInt8) (w : World) (h : n + m ≤ 1048576) (h0 : 0 ≤ L) (hL : ¬ L < (n : Int)) (h1 : L < 9223372036854775807) (ha : Inc w (some x) n la) (hb : Inc w (some y) m lb) (hna : Plain.NoNl la) (hnb : Plain.NlAt lb i)
    (hrest : m = i + 1 ∨ (i + 1 < m ∧ Plain.NoNl (lb.drop (i + 1))) ∨ ∃ j, Plain.NlAt (lb.drop (i + 1)) j) :
    Calls Try.prog 3 #[.int .i64 L, .slice (some x) n c, .slice (some y) m d] w fun e w' => e = .returned (.bool true) ∧ Below w.heap.size w w' := by
  have q1 := fun w => run_neq_slice_nil_any (P := Try.prog) w 22 5 (some x) n c 0 0 Try.underlying22
  have q2 := fun w => run_neq_slice_nil_any (P := Try.prog) w 22 5 (some y) m d 0 0 Try.underlying22
  have k1 := make_n n (by omega)
  have k2 := make_n m (by omega)
  have him := hnb.lt
  rw [hb.len] at him
  have hrest' := hid hrest
  clear hrest
  go_enter Try.func3, Try.ntmps3
  go_wp2_with (first
    | (go_at_call 4; refine (bytes4 _ _ _ _ _ _ _ _ h).mono ?_; rintro e w ⟨rfl, rfl⟩)
    | (go_at_call 5; refine (inb_no _ _ _ la _ (by omega) ha hna).mono ?_; rintro e w ⟨rfl, rfl⟩))
  obtain ⟨w1, hc1, hr1, hb1, hs1⟩ := copied x n c la w _ rfl ha 3
  rw [hc1]
  clear hc1
  simp only [Result.andThen]
  rw [Oper.upon_value]
  go_wp2_with fail
  obtain ⟨w2, hc2, hr2, hb2, hs2⟩ := copied y m d lb w1 _ rfl (hb.below hb1) 3
  have hs1' := hs1
  rw [hs1'] at hc2 hr2 hb2 hs2
  rw [hc2]
  clear hc2
  simp only [Result.andThen]
  rw [Oper.upon_value]
  have hra : RowAt w2 w.heap.size 0 la := hr1.below hb2 (by omega)
  obtain ⟨wa, hwa, cva⟩ : ∃ wa : ByteArray, Hid (wa.data.toList = la) ∧ (convert 22 9 (.slice (some ⟨w.heap.size, 0, none⟩) n n)).run Try.prog w2 = .ok (.string wa) w2 := ⟨⟨la.toArray⟩, hid rfl, conv w2 _ _ n n la ha.len hra⟩
  obtain ⟨wb, hwb, cvb⟩ : ∃ wb : ByteArray, Hid (wb.data.toList = lb) ∧ (convert 22 9 (.slice (some ⟨w.heap.size + 1, 0, none⟩) m m)).run Try.prog w2 = .ok (.string wb) w2 := ⟨⟨lb.toArray⟩, hid rfl, conv w2 _ _ m m lb hb.len hr2⟩
  go_wp2_with (go_at_call 5; refine (inb_row_at _ _ _ _ i lb _ hb.len (by omega) hr2 hnb).mono ?_; rintro e w2 ⟨rfl, rfl⟩)
  have hws : wa.size = n := by rw [← ha.len, ← hwa.out]; rfl
  have hwt : wb.size = m := by rw [← hb.len, ← hwb.out]; rfl
  have hbel : Below w.heap.size w w2 := hb1.trans (hb2.mono (by omega))
  have hal := hid ha.len
  have hbl := hid hb.len
  clear q1 q2 k1 k2 cva cvb ha hb hr1 hb1 hb2 hs1 hs1'
  have q0 := fun w => run_neq_slice_nil_any (P := Try.prog) w 22 5 none 0 0 0 0 Try.underlying22
  have q0e := fun w' => Lib.run_eql_slice_nil (P := Try.prog) w' 22 5 none 0 0 0 0 Try.underlying22
  refine (maker L w2 h0 h1).mono ?_
  rintro e w3 ⟨t, v0, rfl, hS, hb3, ht1, ht2⟩
  replace hra := hra.below hb3 (by omega)
  replace hr2 := hr2.below hb3 (by omega)
  replace hbel := hbel.trans (hb3.mono (by omega))
  have hta : w.heap.size ≠ t := by omega
  have htb : w.heap.size + 1 ≠ t := by omega
  have htb3 : w.heap.size + 1 < w3.heap.size := by omega
  have htw : w.heap.size ≤ t := by omega
  clear hb3 hs2
  go_wp2_with fail
  refine (zzswl _ _ _ _ _ _ _ _ _ (swl_wait t w.heap.size 0 n n la v0 L 0 0 0 w3 hal.out hra hS hna (by omega))).mono ?_
  rintro e w3 ⟨rfl, rfl⟩
  have kk : ∀ w', (Instr.makeSlice 22 (.int .i64 0) (.int .i64 ((n : Int) + (m : Int)))).run Try.prog w' = .ok (.slice (some ⟨w'.heap.size, 0, none⟩) 0 (n + m)) (w'.alloc (.cells (zeros (n + m)) 5)) := fun w' => by
    have := make0 0 ((n : Int) + (m : Int)) (by omega) (by omega) (by omega) w'
    rwa [show ((n : Int) + (m : Int)).toNat = n + m by omega] at this
  obtain ⟨wq, hgq, hc1, hc2, hrq, hSq, hr2q, hbelq⟩ : ∃ wq, ∃ wp, Hid ((Builtin.append_ #[22, 9] 22 #[.slice (some ⟨w3.heap.size, 0, none⟩) 0 (n + m), .string wa]).run Try.prog (w3.alloc (.cells (zeros (n + m)) 5)) = .ok (.slice (some ⟨w3.heap.size, 0, none⟩) n (n + m)) wp) ∧
      Hid ((Builtin.append_ #[22, 9] 22 #[.slice (some ⟨w3.heap.size, 0, none⟩) n (n + m), .string wb]).run Try.prog wp = .ok (.slice (some ⟨w3.heap.size, 0, none⟩) (n + m) (n + m)) wq) ∧
      RowAt wq w3.heap.size 0 (la ++ lb) ∧ Scn wq t v0 L 0 0 0 ∧ RowAt wq (w.heap.size + 1) 0 lb ∧ Below w.heap.size w wq := by
    have hz0 : ∀ j, j < n + m → ((w3.alloc (.cells (zeros (n + m)) 5)).cell? ⟨w3.heap.size, j, none⟩).isSome = true := fun j hj => by rw [cellZ _ _ _ hj]; rfl
    have hf0 : ∀ j, (w3.alloc (.cells (zeros (n + m)) 5)).frozen? ⟨w3.heap.size, j, none⟩ = false := fun j => by rw [frozen?_alloc_cells]; simp [World.frozen?]
    obtain ⟨wp, hc1, hrp, hOp, hzp⟩ := app (w3.alloc (.cells (zeros (n + m)) 5)) w3.heap.size 0 (n + m) wa [] (rowAt_nil _ _ _) rfl (by omega) hz0 hf0
    rw [Nat.zero_add, hws] at hc1
    rw [List.nil_append] at hrp
    obtain ⟨wq, hc2, hrq, hOq, hzq⟩ := app wp w3.heap.size n (n + m) wb wa.data.toList hrp (by rw [hwa.out]; exact hal.out) (by omega) hzp (fun j => (hOp.frozen _).trans (hf0 j))
    rw [hwt] at hc2
    rw [hwa.out, hwb.out] at hrq
    have hb0 : Below w3.heap.size w3 (w3.alloc (.cells (zeros (n + m)) 5)) := (Below.refl _ _).alloc (Nat.le_refl _) _
    have hO := hOp.trans hOq
    have hw3 := hbel.size
    refine ⟨wq, wp, hc1, hc2, hrq, (hS.below hb0 ht2).only hO (by omega), (hr2.below hb0 (by omega)).only hO (by omega), ?_⟩
    exact (hbel.trans (hb0.mono (by omega))).trans (hO.below (by omega))
  have hgne : w3.heap.size ≠ t := by omega
  clear hS hr2 hbel hra
  go_wp2_with (first
    | (at_builtin; refine wpList_app rfl _ _ 22 9 rfl (.slice (some ⟨w3.heap.size, 0, none⟩) 0 (n + m)) (.string wa) rfl rfl hc1.out ?_)
    | (at_builtin; refine wpList_app rfl _ _ 22 9 rfl (.slice (some ⟨w3.heap.size, 0, none⟩) n (n + m)) (.string wb) rfl rfl hc2.out ?_))
  refine (zzswl _ _ _ _ _ _ _ _ _ (swl_line t w3.heap.size 0 (n + m) (n + m) (n + i) (la ++ lb) v0 L 0 0 false wq (by rw [List.length_append, hal.out, hbl.out]) (by omega) (Nat.le_refl _) hrq hSq (by have := Plain.joined hna hnb; rwa [hal.out] at this))).mono ?_
  rintro e w5 ⟨rfl, hO5, hS5⟩
  have hr2 := hr2q.only hO5 htb
  have hbel := hbelq.trans (hO5.below htw)
  have hrow5 := hrq.only hO5 hgne
  have e2 : (wa ++ wb.extract 0 i).data.toList = (la ++ lb).take (n + i) := by
    rw [ByteArray.data_append, Array.toList_append, Lib.extract_data, hwa.out, hwb.out, List.drop_zero, Nat.sub_zero, ← hal.out, List.take_append, List.take_of_length_le (Nat.le_add_right _ _), Nat.add_sub_cancel_left]
  have hrow2 : Hid (RowAt w5 w3.heap.size 0 (wa ++ wb.extract 0 i).data.toList) := by rw [e2]; exact hrow5.take _
  have hsz2 : Hid ((wa ++ wb.extract 0 i).size = n + i) := by
    show (wa ++ wb.extract 0 i).data.toList.length = n + i
    rw [e2, List.length_take, List.length_append, hal.out, hbl.out]; omega
  have hni : ((n : Int) + (i : Int) + 1 != (n : Int) + (i : Int) + 1) = false := bne_self_eq_false _
  have qe := fun w' => Lib.run_eql_slice_nil (P := Try.prog) w' 22 5 (some ⟨w3.heap.size, 0, none⟩) (n + i) (n + m) 0 0 Try.underlying22
  clear hrow5 e2 hrq hSq hr2q hbelq kk hc1 hc2
  have hov := hS5.c3
  clear hO5
  rcases hrest'.out with hm | ⟨hlt, hno⟩ | ⟨j, hj⟩
  · subst hm
    have e0 : ((0 : Int) == (i : Int) + 1 - (i : Int) - 1) = true := beq_iff_eq.2 (by omega)
    have hno' : Hid (Plain.NoNl (wb.data.toList.drop (i + 1))) := by
      rw [List.drop_of_length_le (by rw [show wb.data.toList.length = wb.size from rfl, hwt]; exact Nat.le_refl _)]
      exact Plain.noNl_nil
    go_wp2_with (first | (go_at_call 9; refine (same _ _ _ _ _ _ hsz2.out (by omega) hrow2.out).mono ?_; rintro e w7 ⟨rfl, m5, rfl⟩) | (go_at_call 8; refine (zzover _ _ (w5.drewN m5) hov).mono ?_; rintro e w8 ⟨rfl, rfl⟩))
    replace hS5 := hS5.drewN m5
    replace hbel : Below w.heap.size w (w5.drewN m5) := hbel.trans ⟨rfl, rfl, rfl, Nat.le_refl _, fun _ _ => rfl⟩
    clear hov hrow2 hr2
    generalize w5.drewN m5 = wx at *
    refine (zzswl _ _ _ _ _ _ _ _ _ (swl_tail t (w.heap.size + 1) 0 0 0 [] v0 L 0 _ 0 wx rfl (by omega) (by omega) (by omega) (rowAt_nil _ _ _) hS5 Plain.noNl_nil)).mono ?_
    rintro e w6 ⟨rfl, hO6, hS6⟩
    replace hbel := hbel.trans (hO6.below htw)
    have hpa : w6.cell? ⟨t, 4, none⟩ = some (.int .i64 0) := hS6.c4
    clear hO6 hS5
    go_wp2_with (first
      | (go_at_call 10; refine (inf_no1 _ _ _ (by omega) (by omega) hno'.out).mono ?_; rintro e w6 ⟨rfl, rfl⟩)
      | (go_at_call 11; refine (zztail _ _ _ hpa).mono ?_; rintro e w6 ⟨rfl, rfl⟩))
    go_ret
    exact ⟨rfl, hbel⟩
  · have hne : ¬ m = i + 1 := by omega
    have hno' : Hid (Plain.NoNl (wb.data.toList.drop (i + 1))) := by rw [hwb.out]; exact hno
    have hno2 := hid hno
    clear hno
    obtain ⟨k, hk⟩ : ∃ k : Nat, m = i + 1 + k := ⟨m - (i + 1), by omega⟩
    subst hk
    have hdl : (lb.drop (i + 1)).length = k := by rw [List.length_drop, hbl.out]; omega
    have hdr : RowAt w5 (w.heap.size + 1) (i + 1) (lb.drop (i + 1)) := by have := hr2.drop (i + 1); rwa [Nat.zero_add] at this
    have esub : i + 1 + k - (i + 1) = k := by omega
    have e0 : ((k : Int) == (i : Int) + 1 + (k : Int) - (i : Int) - 1) = true := beq_iff_eq.2 (by omega)
    have HDL := hid hdl
    have HDR := hid hdr
    clear hdl hdr
    go_wp2_with (first | (go_at_call 9; refine (same _ _ _ _ _ _ hsz2.out (by omega) hrow2.out).mono ?_; rintro e w7 ⟨rfl, m5, rfl⟩) | (go_at_call 8; refine (zzover _ _ (w5.drewN m5) hov).mono ?_; rintro e w8 ⟨rfl, rfl⟩))
    replace hS5 := hS5.drewN m5
    replace hbel : Below w.heap.size w (w5.drewN m5) := hbel.trans ⟨rfl, rfl, rfl, Nat.le_refl _, fun _ _ => rfl⟩
    have HDR' : Hid (RowAt (w5.drewN m5) (w.heap.size + 1) (i + 1) (lb.drop (i + 1))) := HDR.out
    clear HDR
    clear hov hrow2 hr2
    generalize w5.drewN m5 = wx at *
    refine (zzswl _ _ _ _ _ _ _ _ _ (swl_tail t (w.heap.size + 1) (i + 1) k k (lb.drop (i + 1)) v0 L 0 _ 0 wx HDL.out (by omega) (by omega) (by omega) HDR'.out hS5 hno2.out)).mono ?_
    rintro e w6 ⟨rfl, hO6, hS6⟩
    rw [Int.zero_add] at hS6
    replace hbel := hbel.trans (hO6.below htw)
    have hpa := hS6.c4
    clear hO6 hS5
    go_wp2_with (first
      | (go_at_call 10; refine (inf_no1 _ _ _ (by omega) (by omega) hno'.out).mono ?_; rintro e w6 ⟨rfl, rfl⟩)
      | (go_at_call 11; refine (zztail _ _ _ hpa).mono ?_; rintro e w6 ⟨rfl, rfl⟩))
    go_ret
    exact ⟨rfl, hbel⟩
  · have hjl := hj.lt
    rw [List.length_drop, hbl.out] at hjl
    have hne : ¬ m = i + 1 := by omega
    have hj' : Hid (Plain.NlAt (wb.data.toList.drop (i + 1)) j) := by rw [hwb.out]; exact hj
    have hj2 := hid hj
    clear hj
    obtain ⟨k, hk⟩ : ∃ k : Nat, m = i + 1 + k := ⟨m - (i + 1), by omega⟩
    subst hk
    have hdl : (lb.drop (i + 1)).length = k := by rw [List.length_drop, hbl.out]; omega
    have hdr : RowAt w5 (w.heap.size + 1) (i + 1) (lb.drop (i + 1)) := by have := hr2.drop (i + 1); rwa [Nat.zero_add] at this
    have esub : i + 1 + k - (i + 1) = k := by omega
    have HDL := hid hdl
    have HDR := hid hdr
    clear hdl hdr
    go_wp2_with (first | (go_at_call 9; refine (same _ _ _ _ _ _ hsz2.out (by omega) hrow2.out).mono ?_; rintro e w7 ⟨rfl, m5, rfl⟩) | (go_at_call 8; refine (zzover _ _ (w5.drewN m5) hov).mono ?_; rintro e w8 ⟨rfl, rfl⟩))
    replace hS5 := hS5.drewN m5
    replace hbel : Below w.heap.size w (w5.drewN m5) := hbel.trans ⟨rfl, rfl, rfl, Nat.le_refl _, fun _ _ => rfl⟩
    have HDR' : Hid (RowAt (w5.drewN m5) (w.heap.size + 1) (i + 1) (lb.drop (i + 1))) := HDR.out
    clear HDR
    clear hov hrow2 hr2
    generalize w5.drewN m5 = wx at *
    refine (zzswl _ _ _ _ _ _ _ _ _ (swl_line t (w.heap.size + 1) (i + 1) k k j (lb.drop (i + 1)) v0 L _ 0 true wx HDL.out (by omega) (Nat.le_refl _) HDR'.out hS5 hj2.out)).mono ?_
    rintro e w6 ⟨rfl, hO6, hS6⟩
    replace hbel := hbel.trans (hO6.below htw)
    have hdr6 := HDR'.out.only hO6 htb
    have hov6 := hS6.c3
    clear hO6 hS5 HDR'
    have e3 : (wb.extract (i + 1) (i + 1 + j)).data.toList = (lb.drop (i + 1)).take j := by
      rw [Lib.extract_data, hwb.out, show i + 1 + j - (i + 1) = j by omega]
    have hrow3 : Hid (RowAt w6 (w.heap.size + 1) (i + 1) (wb.extract (i + 1) (i + 1 + j)).data.toList) := by rw [e3]; exact hdr6.take j
    have hsz3 : Hid ((wb.extract (i + 1) (i + 1 + j)).size = j) := by
      show (wb.extract (i + 1) (i + 1 + j)).data.toList.length = j
      rw [e3, List.length_take, HDL.out]; omega
    clear e3 hdr6
    have e0 : ((j : Int) + 1 == (i : Int) + 1 + (j : Int) - (i : Int)) = true := beq_iff_eq.2 (by omega)
    have q3 := fun w' => run_neq_slice_nil_any (P := Try.prog) w' 22 5 (some ⟨w.heap.size + 1, i + 1, none⟩) j k 0 0 Try.underlying22
    go_wp2_with (first
      | (go_at_call 10; refine (inf_at1 _ _ _ _ (by omega) hj'.out).mono ?_; rintro e w6 ⟨rfl, rfl⟩)
      | (go_at_call 9; refine (same _ _ _ _ _ _ hsz3.out (by omega) hrow3.out).mono ?_; rintro e w7 ⟨rfl, m7, rfl⟩)
      | (go_at_call 8; refine (zzover _ _ (w6.drewN m7) hov6).mono ?_; rintro e w8 ⟨rfl, rfl⟩))
    go_ret
    exact ⟨rfl, hbel.trans ⟨rfl, rfl, rfl, Nat.le_refl _, fun _ _ => rfl⟩⟩

end Go.Proofs.Qxb6608719a.Ln
