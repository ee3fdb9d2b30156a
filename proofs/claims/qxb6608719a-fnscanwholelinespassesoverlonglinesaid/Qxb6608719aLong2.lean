/-
  THE WALK of FnScanWholeLinesPassesOverLongLine: the rest.
-/
import Derived.Test.Qxb6608719aLong
namespace Go.Proofs.Qxb6608719a.Ln
open Go.RowKit Go.Proofs.Qxb6608719a.Sc

theorem RowAt.old {w : World} {b o : Nat} {l : List UInt8} (h : RowAt w b o l) (hl : 0 < l.length) : b < w.heap.size := by
  have := h 0 hl
  rcases Nat.lt_or_ge b w.heap.size with hb | hb
  · exact hb
  · simp [World.cell?, Array.getElem?_eq_none hb] at this
theorem Inc.below {w w' : World} {a : Option Addr} {n : Nat} {l : List UInt8} (h : Inc w a n l) (k : Below w.heap.size w w') : Inc w' a n l where
  len := h.len
  nil := h.nil
  row := fun x hx hn => by
    obtain ⟨b, o, e, hr⟩ := h.row x hx hn
    exact ⟨b, o, e, hr.below k (RowAt.old hr (by rw [h.len]; exact hn))⟩

set_option maxRecDepth 100000 in
set_option maxHeartbeats 1000000 in
theorem noline (L : Int) (x y : Addr) (n m c d : Nat) (la lb : List UInt8) (w : World) (h : n + m ≤ 1048576) (h0 : 0 ≤ L) (h1 : L < 9223372036854775807) (ha : Inc w (some x) n la) (hb : Inc w (some y) m lb) (hna : Plain.NoNl la) (hnb : Plain.NoNl lb) :
    Calls Try.prog 3 #[.int .i64 L, .slice (some x) n c, .slice (some y) m d] w fun e w' => e = .returned (.bool true) ∧ Below w.heap.size w w' := by
  have q1 := fun w => run_neq_slice_nil_any (P := Try.prog) w 22 5 (some x) n c 0 0 Try.underlying22
  have q2 := fun w => run_neq_slice_nil_any (P := Try.prog) w 22 5 (some y) m d 0 0 Try.underlying22
  have k1 := make_n n (by omega)
  have k2 := make_n m (by omega)
  go_enter Try.func3, Try.ntmps3
  go_wp2_with (first
    | (go_at_call 4; refine (bytes4 _ _ _ _ _ _ _ _ h).mono ?_; rintro e w ⟨rfl, rfl⟩)
    | (go_at_call 5; refine (inb_no _ _ _ la _ (by omega) ha hna).mono ?_; rintro e w ⟨rfl, rfl⟩))
  obtain ⟨w1, hc1, hr1, hb1, hs1⟩ := copied x n c la w _ rfl ha 3
  rw [hc1]
  clear hc1
  simp only [Result.andThen]
  rw [Oper.upon_value]
  go_wp2_with fail
  obtain ⟨w2, hc2, hr2, hb2, hs2⟩ := copied y m d lb w1 _ rfl (hb.below hb1) 3
  have hs1' := hs1
  rw [hs1'] at hc2 hr2
  rw [hc2]
  clear hc2
  simp only [Result.andThen]
  rw [Oper.upon_value]
  go_wp2_with (go_at_call 5; refine (inb_row_no _ _ _ _ lb _ hb.len (by omega) hr2 hnb).mono ?_; rintro e w2 ⟨rfl, rfl⟩)
  go_ret
  exact ⟨rfl, hb1.trans (hb2.mono (by omega))⟩
set_option maxRecDepth 100000 in
set_option maxHeartbeats 1000000 in
theorem noline_a (L : Int) (y : Addr) (m d : Nat) (lb : List UInt8) (w : World) (h : 0 + m ≤ 1048576) (h0 : 0 ≤ L) (h1 : L < 9223372036854775807) (hb : Inc w (some y) m lb) (hnb : Plain.NoNl lb) :
    Calls Try.prog 3 #[.int .i64 L, .slice none 0 0, .slice (some y) m d] w fun e w' => e = .returned (.bool true) ∧ Below w.heap.size w w' := by
  have q1 := fun w => run_neq_slice_nil_any (P := Try.prog) w 22 5 none 0 0 0 0 Try.underlying22
  have q2 := fun w => run_neq_slice_nil_any (P := Try.prog) w 22 5 (some y) m d 0 0 Try.underlying22
  have k2 := make_n m (by omega)
  go_enter Try.func3, Try.ntmps3
  go_wp2_with (first
    | (go_at_call 4; refine (bytes4 _ _ _ _ _ _ _ _ h).mono ?_; rintro e w ⟨rfl, rfl⟩)
    | (go_at_call 5; refine (inb_empty _ _ _).mono ?_; rintro e w ⟨rfl, rfl⟩))
  obtain ⟨w2, hc2, hr2, hb2, hs2⟩ := copied y m d lb w _ rfl hb 3
  rw [hc2]
  clear hc2
  simp only [Result.andThen]
  rw [Oper.upon_value]
  go_wp2_with (go_at_call 5; refine (inb_row_no _ _ _ _ lb _ hb.len (by omega) hr2 hnb).mono ?_; rintro e w2 ⟨rfl, rfl⟩)
  go_ret
  exact ⟨rfl, hb2⟩

set_option maxRecDepth 100000 in
set_option maxHeartbeats 1000000 in
theorem noline_b (L : Int) (x : Addr) (n c : Nat) (la : List UInt8) (w : World) (h : n + 0 ≤ 1048576) (h0 : 0 ≤ L) (h1 : L < 9223372036854775807) (ha : Inc w (some x) n la) (hna : Plain.NoNl la) :
    Calls Try.prog 3 #[.int .i64 L, .slice (some x) n c, .slice none 0 0] w fun e w' => e = .returned (.bool true) ∧ Below w.heap.size w w' := by
  have q1 := fun w => run_neq_slice_nil_any (P := Try.prog) w 22 5 (some x) n c 0 0 Try.underlying22
  have q2 := fun w => run_neq_slice_nil_any (P := Try.prog) w 22 5 none 0 0 0 0 Try.underlying22
  have k1 := make_n n (by omega)
  go_enter Try.func3, Try.ntmps3
  go_wp2_with (first
    | (go_at_call 4; refine (bytes4 _ _ _ _ _ _ _ _ h).mono ?_; rintro e w ⟨rfl, rfl⟩)
    | (go_at_call 5; refine (inb_no _ _ _ la _ (by omega) ha hna).mono ?_; rintro e w ⟨rfl, rfl⟩))
  obtain ⟨w1, hc1, hr1, hb1, hs1⟩ := copied x n c la w _ rfl ha 3
  rw [hc1]
  clear hc1
  simp only [Result.andThen]
  rw [Oper.upon_value]
  go_wp2_with (go_at_call 5; refine (inb_empty _ _ _).mono ?_; rintro e w1 ⟨rfl, rfl⟩)
  go_ret
  exact ⟨rfl, hb1⟩

set_option maxRecDepth 100000 in
set_option maxHeartbeats 1000000 in
theorem noline_ab (L : Int) (w : World) (h0 : 0 ≤ L) (h1 : L < 9223372036854775807) :
    Calls Try.prog 3 #[.int .i64 L, .slice none 0 0, .slice none 0 0] w fun e w' => e = .returned (.bool true) ∧ Below w.heap.size w w' := by
  have q1 := fun w => run_neq_slice_nil_any (P := Try.prog) w 22 5 none 0 0 0 0 Try.underlying22
  go_enter Try.func3, Try.ntmps3
  go_wp2_with (first
    | (go_at_call 4; refine (bytes4 _ _ _ _ _ _ _ _ (by omega)).mono ?_; rintro e w ⟨rfl, rfl⟩)
    | (go_at_call 5; refine (inb_empty _ _ _).mono ?_; rintro e w ⟨rfl, rfl⟩))
  go_ret
  exact ⟨rfl, Below.refl _ _⟩

end Go.Proofs.Qxb6608719a.Ln
