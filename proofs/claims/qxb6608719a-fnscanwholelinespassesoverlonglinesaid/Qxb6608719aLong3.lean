/-
  THE WALK of FnScanWholeLinesPassesOverLongLine: the way to the end.
-/
import Derived.Test.Qxb6608719aLong2
namespace Go.Proofs.Qxb6608719a.Ln
open Go.RowKit Go.Proofs.Qxb6608719a.Sc

theorem conv (w : World) (g o n c : Nat) (l : List UInt8) (hl : l.length = n) (hr : RowAt w g o l) :
    (convert 22 9 (.slice (some ⟨g, o, none⟩) n c)).run Try.prog w = .ok (.string ⟨l.toArray⟩) w := by
  subst hl
  refine run_convert_bytes_back (P := Try.prog) w 22 9 5 ⟨g, o, none⟩ c l Try.underlying22 Try.underlying5 Try.underlying9 ?_
  intro j hj
  have e : (⟨g, o, none⟩ : Addr).add j = ⟨g, o + j, none⟩ := by unfold Addr.add; split <;> simp_all
  rw [e, hr j hj]
  simp [List.getD, hj]

theorem maker (L : Int) (w : World) (h0 : 0 ≤ L) (h1 : L < 9223372036854775807) :
    Calls Try.prog 6 #[.string ⟨#[]⟩, .int .i64 L] w fun e w' => ∃ t v0, e = .returned (.pointer (some ⟨t, 0, none⟩)) ∧ Scn w' t v0 L 0 0 0 ∧ Below w.heap.size w w' ∧ w.heap.size ≤ t ∧ t < w'.heap.size := by
  refine (zznew ⟨#[]⟩ L w h0 h1).mono ?_
  rintro e w' ⟨rfl, rfl⟩
  have hs := made_scn w.heap.size L (first L) (w.alloc (.cells #[.string ⟨#[]⟩, .int .i64 0, .int .i64 (-1)] 47))
  have hz := made_size w.heap.size L (first L) (w.alloc (.cells #[.string ⟨#[]⟩, .int .i64 0, .int .i64 (-1)] 47))
  rw [World.size_alloc] at hs hz
  refine ⟨_, _, rfl, hs, ((Below.refl _ _).alloc (Nat.le_refl _) _).trans (made_below _ _ _ _ _ (by simp)), by omega, by rw [hz]; omega⟩

theorem hid {p : Prop} (h : p) : Hid p := h

theorem wpList_app {P : Program} {w w' : World} {v : Value} {ops : Array Oper} {rest : List Oper} {o : Oper} {a : Act} {Q : Exit → Act → World → Prop} (hgd : o.guard = none) (s x : Operand) (t tx : TypeId)
    (ho : o.op = .call { callee := .builtin .append, args := #[s, x], argTypes := #[t, tx] }) (vs vx : Value) (hs : a.eval s = vs) (hx : a.eval x = vx)
    (hr : (Builtin.append_ #[t, tx] o.type #[vs, vx]).run P w = .ok v w') (h : ∀ v₁ w₁, v₁ = v ∧ w₁ = w' → wpList P ops Q rest (a.put o.dst v₁) w₁) : wpList P ops Q (o :: rest) a w := by
  refine wpList_plain hgd fun K hK => ?_
  unfold Oper.wp execOp
  simp only [ho, resolve, invoke, builtin, Sem.run_bind, Sem.run_pure, Result.andThen_ok, List.map_toArray, List.map_cons, List.map_nil, hs, hx, hr]
  exact hK _ _ (h _ _ ⟨rfl, rfl⟩)

/-- append of a string's bytes to a row of the call's own, with room. -/
theorem app (w : World) (g k cap : Nat) (s : ByteArray) (l : List UInt8) (row : RowAt w g 0 l) (hl : l.length = k) (room : k + s.size ≤ cap) (hc : ∀ j, j < cap → (w.cell? ⟨g, j, none⟩).isSome = true) (hf : ∀ j, w.frozen? ⟨g, j, none⟩ = false) :
    ∃ w', (Builtin.append_ #[22, 9] 22 #[.slice (some ⟨g, 0, none⟩) k cap, .string s]).run Try.prog w = .ok (.slice (some ⟨g, 0, none⟩) (k + s.size) cap) w' ∧ RowAt w' g 0 (l ++ s.data.toList) ∧ Only g w w' ∧ ∀ j, j < cap → (w'.cell? ⟨g, j, none⟩).isSome = true := by
  obtain ⟨i0, hi, hz0, hz1, hz2⟩ := info_parts info5
  have hsrc : Src Try.prog i0.size 9 (.string s) s.size (byteCells s) w := by rw [hz1]; exact Src.ofString w Try.underlying9 s
  have hbl : (byteCells s).length = s.size := byteCells_length s
  have hrun := run_append_room_src (P := Try.prog) w 22 9 22 5 i0 Try.underlying22 hi g 0 k cap (.string s) s.size (byteCells s) hsrc room
    (fun j hj => by rw [hz1, Nat.mul_one, Nat.zero_add]; exact hc _ (by omega)) (fun j _ => hf _)
  rw [hz1, Nat.mul_one, Nat.zero_add] at hrun
  have hin := World.cell?_setCells_in g (byteCells s) k w (fun j hj => hc _ (by omega))
  have hout := fun (j : Nat) (hj : j < k ∨ k + (byteCells s).length ≤ j) => World.cell?_setCells_out g (byteCells s) k w ⟨g, j, none⟩ (fun _ _ => hj)
  refine ⟨_, hrun, ?_, only_setCells g _ _ _, ?_⟩
  · intro j hj
    rw [Nat.zero_add]
    rcases Nat.lt_or_ge j k with hjk | hjk
    · rw [hout j (.inl hjk)]
      have := row j (by omega)
      rw [Nat.zero_add] at this
      rw [this]
      simp [List.getD, List.getElem?_append_left (show j < l.length by omega)]
    · obtain ⟨q, rfl⟩ : ∃ q, j = k + q := ⟨j - k, by omega⟩
      have hq : q < s.data.toList.length := by rw [List.length_append] at hj; omega
      rw [hin q (by rw [hbl]; exact hq)]
      have e : (l ++ s.data.toList).getD (k + q) 0 = s.data.toList[q] := by
        rw [List.getD, List.getElem?_append_right (by omega), hl, Nat.add_sub_cancel_left, List.getElem?_eq_getElem hq]; rfl
      rw [e]
      simp [byteCells]
  · intro j hj
    by_cases h : j < k ∨ k + (byteCells s).length ≤ j
    · rw [hout j h]; exact hc j hj
    · obtain ⟨q, rfl⟩ : ∃ q, j = k + q := ⟨j - k, by omega⟩
      rw [hin q (by omega)]; rfl

/-- The wrapper ZZscanWholeLines. -/
theorem zzswl (p d b : Value) (v0 : Int) (a : Option Addr) (k c : Nat) (w : World) (Q : World → Prop)
    (h : Calls Try.prog 14 #[p, d, b] w fun e w' => e = .returned (.tuple #[.int .i64 v0, .slice a k c, .nilIface]) ∧ Q w') :
    Calls Try.prog 7 #[p, d, b] w fun e w' => e = .returned (.tuple #[.int .i64 v0, .slice a k c, .nilIface]) ∧ Q w' := by
  have H : Hid _ := h
  clear h
  go_enter Try.func7, Try.ntmps7
  go_wp2_with fail
  refine Calls.mono H.out ?_
  rintro e w1 ⟨rfl, hq⟩
  have HQ : Hid (Q w1) := hq
  clear hq H
  go_wp2_with fail
  go_ret3
  exact ⟨rfl, HQ.out⟩

theorem inf_no1 (s : ByteArray) (i : Nat) (w : World) (hs : s.size ≤ 1048577) (hp : i + 1 ≤ s.size) (hl : Plain.NoNl (s.data.toList.drop (i + 1))) :
    Calls Try.prog 10 #[.string s, .int .i64 ((i : Int) + 1)] w fun e w' => e = .returned (.int .i64 (-1)) ∧ w' = w := by
  have h := inf_no s (i + 1) w hs hp hl
  rwa [show ((i + 1 : Nat) : Int) = (i : Int) + 1 from by omega] at h
theorem inf_at1 (s : ByteArray) (i j : Nat) (w : World) (hs : s.size ≤ 1048577) (hl : Plain.NlAt (s.data.toList.drop (i + 1)) j) :
    Calls Try.prog 10 #[.string s, .int .i64 ((i : Int) + 1)] w fun e w' => e = .returned (.int .i64 ((i : Int) + 1 + (j : Int))) ∧ w' = w := by
  have h := inf_at s (i + 1) j w hs hl
  rwa [show ((i + 1 : Nat) : Int) = (i : Int) + 1 from by omega, show ((i + 1 + j : Nat) : Int) = (i : Int) + 1 + (j : Int) from by omega] at h

set_option maxRecDepth 100000 in
set_option maxHeartbeats 2000000 in
theorem mainP (L : Int) (x y : Addr) (n m c d i : Nat) (la lb : List UInt8) (w : World) (h : n + m ≤ 1048576) (h0 : 0 ≤ L) (hL : L < (n : Int)) (h1 : L < 9223372036854775807) (ha : Inc w (some x) n la) (hb : Inc w (some y) m lb) (hna : Plain.NoNl la) (hnb : Plain.NlAt lb i)
    (hrest : m = i + 1 ∨ (i + 1 < m ∧ Plain.NoNl (lb.drop (i + 1))) ∨ ∃ j, Plain.NlAt (lb.drop (i + 1)) j) :
    Calls Try.prog 3 #[.int .i64 L, .slice (some x) n c, .slice (some y) m d] w fun e w' => e = .returned (.bool true) ∧ Below w.heap.size w w' := by
  have q1 := fun w => run_neq_slice_nil_any (P := Try.prog) w 22 5 (some x) n c 0 0 Try.underlying22
  have q2 := fun w => run_neq_slice_nil_any (P := Try.prog) w 22 5 (some y) m d 0 0 Try.underlying22
  have k1 := make_n n (by omega)
  have k2 := make_n m (by omega)
  have him := hnb.lt
  rw [hb.len] at him
  have hrest' := hid hrest
  clear hrest
  go_enter Try.func3, Try.ntmps3
  go_wp2_with (first
    | (go_at_call 4; refine (bytes4 _ _ _ _ _ _ _ _ h).mono ?_; rintro e w ⟨rfl, rfl⟩)
    | (go_at_call 5; refine (inb_no _ _ _ la _ (by omega) ha hna).mono ?_; rintro e w ⟨rfl, rfl⟩))
  obtain ⟨w1, hc1, hr1, hb1, hs1⟩ := copied x n c la w _ rfl ha 3
  rw [hc1]
  clear hc1
  simp only [Result.andThen]
  rw [Oper.upon_value]
  go_wp2_with fail
  obtain ⟨w2, hc2, hr2, hb2, hs2⟩ := copied y m d lb w1 _ rfl (hb.below hb1) 3
  have hs1' := hs1
  rw [hs1'] at hc2 hr2 hb2 hs2
  rw [hc2]
  clear hc2
  simp only [Result.andThen]
  rw [Oper.upon_value]
  have hra : RowAt w2 w.heap.size 0 la := hr1.below hb2 (by omega)
  obtain ⟨wa, hwa, cva⟩ : ∃ wa : ByteArray, Hid (wa.data.toList = la) ∧ (convert 22 9 (.slice (some ⟨w.heap.size, 0, none⟩) n n)).run Try.prog w2 = .ok (.string wa) w2 := ⟨⟨la.toArray⟩, hid rfl, conv w2 _ _ n n la ha.len hra⟩
  obtain ⟨wb, hwb, cvb⟩ : ∃ wb : ByteArray, Hid (wb.data.toList = lb) ∧ (convert 22 9 (.slice (some ⟨w.heap.size + 1, 0, none⟩) m m)).run Try.prog w2 = .ok (.string wb) w2 := ⟨⟨lb.toArray⟩, hid rfl, conv w2 _ _ m m lb hb.len hr2⟩
  go_wp2_with (go_at_call 5; refine (inb_row_at _ _ _ _ i lb _ hb.len (by omega) hr2 hnb).mono ?_; rintro e w2 ⟨rfl, rfl⟩)
  have hws : wa.size = n := by rw [← ha.len, ← hwa.out]; rfl
  have hwt : wb.size = m := by rw [← hb.len, ← hwb.out]; rfl
  have hbel : Below w.heap.size w w2 := hb1.trans (hb2.mono (by omega))
  have hal := hid ha.len
  have hbl := hid hb.len
  clear q1 q2 k1 k2 cva cvb ha hb hr1 hb1 hb2 hs1 hs1'
  have q0 := fun w => run_neq_slice_nil_any (P := Try.prog) w 22 5 none 0 0 0 0 Try.underlying22
  have q0e := fun w' => Lib.run_eql_slice_nil (P := Try.prog) w' 22 5 none 0 0 0 0 Try.underlying22
  refine (maker L w2 h0 h1).mono ?_
  rintro e w3 ⟨t, v0, rfl, hS, hb3, ht1, ht2⟩
  replace hra := hra.below hb3 (by omega)
  replace hr2 := hr2.below hb3 (by omega)
  replace hbel := hbel.trans (hb3.mono (by omega))
  have hta : w.heap.size ≠ t := by omega
  have htb : w.heap.size + 1 ≠ t := by omega
  have htb3 : w.heap.size + 1 < w3.heap.size := by omega
  have htw : w.heap.size ≤ t := by omega
  clear hb3 hs2
  go_wp2_with fail
  refine (zzswl _ _ _ _ _ _ _ _ _ (swl_pass t w.heap.size 0 n n la v0 L 0 0 0 w3 hal.out (by omega) (by omega) (by omega) hra hS hna hL)).mono ?_
  rintro e w4 ⟨rfl, hO4, hS4⟩
  rw [Int.zero_add] at hS4
  replace hr2 := hr2.only hO4 htb
  replace hbel := hbel.trans (hO4.below htw)
  have hnn : ((n : Int) != (n : Int)) = false := bne_self_eq_false _
  clear hO4 hra hS
  go_wp2_with fail
  refine (zzswl _ _ _ _ _ _ _ _ _ (swl_over t (w.heap.size + 1) 0 m m i lb v0 L n 0 0 false w4 hbl.out (by omega) (Nat.le_refl _) (by omega) (by omega) hr2 hS4 hnb)).mono ?_
  rintro e w5 ⟨rfl, hO5, hS5⟩
  replace hr2 := hr2.only hO5 htb
  replace hbel := hbel.trans (hO5.below htw)
  have hni : ((n : Int) + (i : Int) != (n : Int) + (i : Int)) = false := bne_self_eq_false _
  have hii : ((i : Int) + 1 != (i : Int) + 1) = false := bne_self_eq_false _
  have qe := fun w' => Lib.run_eql_slice_nil (P := Try.prog) w' 22 5 (some ⟨w.heap.size + 1, 0, none⟩) 0 m 0 0 Try.underlying22
  have hov := hS5.c3
  clear hO5 hS4
  rcases hrest'.out with hm | ⟨hlt, hno⟩ | ⟨j, hj⟩
  · subst hm
    have e0 : ((0 : Int) == (i : Int) + 1 - (i : Int) - 1) = true := beq_iff_eq.2 (by omega)
    have hno' : Hid (Plain.NoNl (wb.data.toList.drop (i + 1))) := by
      rw [List.drop_of_length_le (by rw [show wb.data.toList.length = wb.size from rfl, hwt]; exact Nat.le_refl _)]
      exact Plain.noNl_nil
    go_wp2_with (first | (go_at_call 8; refine (zzover _ _ _ hov).mono ?_; rintro e w5 ⟨rfl, rfl⟩))
    refine (zzswl _ _ _ _ _ _ _ _ _ (swl_tail t (w.heap.size + 1) 0 0 0 [] v0 L 0 _ 0 w5 rfl (by omega) (by omega) (by omega) (rowAt_nil _ _ _) hS5 Plain.noNl_nil)).mono ?_
    rintro e w6 ⟨rfl, hO6, hS6⟩
    replace hbel := hbel.trans (hO6.below htw)
    have hpa : w6.cell? ⟨t, 4, none⟩ = some (.int .i64 0) := hS6.c4
    clear hO6 hS5
    go_wp2_with (first
      | (go_at_call 10; refine (inf_no1 _ _ _ (by omega) (by omega) hno'.out).mono ?_; rintro e w6 ⟨rfl, rfl⟩)
      | (go_at_call 11; refine (zztail _ _ _ hpa).mono ?_; rintro e w6 ⟨rfl, rfl⟩))
    go_ret
    exact ⟨rfl, hbel⟩
  · have hne : ¬ m = i + 1 := by omega
    have hno' : Hid (Plain.NoNl (wb.data.toList.drop (i + 1))) := by rw [hwb.out]; exact hno
    have hno2 := hid hno
    clear hno
    obtain ⟨k, hk⟩ : ∃ k : Nat, m = i + 1 + k := ⟨m - (i + 1), by omega⟩
    subst hk
    have hdl : (lb.drop (i + 1)).length = k := by rw [List.length_drop, hbl.out]; omega
    have hdr : RowAt w5 (w.heap.size + 1) (i + 1) (lb.drop (i + 1)) := by have := hr2.drop (i + 1); rwa [Nat.zero_add] at this
    have esub : i + 1 + k - (i + 1) = k := by omega
    have e0 : ((k : Int) == (i : Int) + 1 + (k : Int) - (i : Int) - 1) = true := beq_iff_eq.2 (by omega)
    have HDL := hid hdl
    have HDR := hid hdr
    clear hdl hdr
    go_wp2_with (first | (go_at_call 8; refine (zzover _ _ _ hov).mono ?_; rintro e w5 ⟨rfl, rfl⟩))
    refine (zzswl _ _ _ _ _ _ _ _ _ (swl_tail t (w.heap.size + 1) (i + 1) k k (lb.drop (i + 1)) v0 L 0 _ 0 w5 HDL.out (by omega) (by omega) (by omega) HDR.out hS5 hno2.out)).mono ?_
    rintro e w6 ⟨rfl, hO6, hS6⟩
    rw [Int.zero_add] at hS6
    replace hbel := hbel.trans (hO6.below htw)
    have hpa := hS6.c4
    clear hO6 hS5
    go_wp2_with (first
      | (go_at_call 10; refine (inf_no1 _ _ _ (by omega) (by omega) hno'.out).mono ?_; rintro e w6 ⟨rfl, rfl⟩)
      | (go_at_call 11; refine (zztail _ _ _ hpa).mono ?_; rintro e w6 ⟨rfl, rfl⟩))
    go_ret
    exact ⟨rfl, hbel⟩
  · have hjl := hj.lt
    rw [List.length_drop, hbl.out] at hjl
    have hne : ¬ m = i + 1 := by omega
    have hj' : Hid (Plain.NlAt (wb.data.toList.drop (i + 1)) j) := by rw [hwb.out]; exact hj
    have hj2 := hid hj
    clear hj
    obtain ⟨k, hk⟩ : ∃ k : Nat, m = i + 1 + k := ⟨m - (i + 1), by omega⟩
    subst hk
    have hdl : (lb.drop (i + 1)).length = k := by rw [List.length_drop, hbl.out]; omega
    have hdr : RowAt w5 (w.heap.size + 1) (i + 1) (lb.drop (i + 1)) := by have := hr2.drop (i + 1); rwa [Nat.zero_add] at this
    have esub : i + 1 + k - (i + 1) = k := by omega
    have HDL := hid hdl
    have HDR := hid hdr
    clear hdl hdr
    go_wp2_with (first | (go_at_call 8; refine (zzover _ _ _ hov).mono ?_; rintro e w5 ⟨rfl, rfl⟩))
    refine (zzswl _ _ _ _ _ _ _ _ _ (swl_line t (w.heap.size + 1) (i + 1) k k j (lb.drop (i + 1)) v0 L _ 0 true w5 HDL.out (by omega) (Nat.le_refl _) HDR.out hS5 hj2.out)).mono ?_
    rintro e w6 ⟨rfl, hO6, hS6⟩
    replace hbel := hbel.trans (hO6.below htw)
    have hdr6 := HDR.out.only hO6 htb
    have hov6 := hS6.c3
    clear hO6 hS5 HDR
    have e3 : (wb.extract (i + 1) (i + 1 + j)).data.toList = (lb.drop (i + 1)).take j := by
      rw [Lib.extract_data, hwb.out, show i + 1 + j - (i + 1) = j by omega]
    have hrow3 : Hid (RowAt w6 (w.heap.size + 1) (i + 1) (wb.extract (i + 1) (i + 1 + j)).data.toList) := by rw [e3]; exact hdr6.take j
    have hsz3 : Hid ((wb.extract (i + 1) (i + 1 + j)).size = j) := by
      show (wb.extract (i + 1) (i + 1 + j)).data.toList.length = j
      rw [e3, List.length_take, HDL.out]; omega
    clear e3 hdr6
    have e0 : ((j : Int) + 1 == (i : Int) + 1 + (j : Int) - (i : Int)) = true := beq_iff_eq.2 (by omega)
    have q3 := fun w' => run_neq_slice_nil_any (P := Try.prog) w' 22 5 (some ⟨w.heap.size + 1, i + 1, none⟩) j k 0 0 Try.underlying22
    go_wp2_with (first
      | (go_at_call 10; refine (inf_at1 _ _ _ _ (by omega) hj'.out).mono ?_; rintro e w6 ⟨rfl, rfl⟩)
      | (go_at_call 9; refine (same _ _ _ _ _ _ hsz3.out (by omega) hrow3.out).mono ?_; rintro e w7 ⟨rfl, m7, rfl⟩)
      | (go_at_call 8; refine (zzover _ _ (w6.drewN m7) hov6).mono ?_; rintro e w8 ⟨rfl, rfl⟩))
    go_ret
    exact ⟨rfl, hbel.trans ⟨rfl, rfl, rfl, Nat.le_refl _, fun _ _ => rfl⟩⟩

end Go.Proofs.Qxb6608719a.Ln
