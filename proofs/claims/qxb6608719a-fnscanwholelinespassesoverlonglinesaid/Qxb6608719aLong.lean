/-
  THE WALK of FnScanWholeLinesPassesOverLongLine: the ways that end early.
-/
import Derived.Test.Qxb6608719aMake
import Derived.Deep.AppendSrc
namespace Go.Proofs.Qxb6608719a.Ln
open Go.RowKit Go.Proofs.Qxb6608719a.Sc

/-- A slice of bytes that came in. -/
structure Inc (w : World) (a : Option Addr) (n : Nat) (l : List UInt8) : Prop where
  len : l.length = n
  nil : a = none → n = 0
  row : ∀ x, a = some x → 0 < n → ∃ b o, x = ⟨b, o, none⟩ ∧ RowAt w b o l

theorem bytes4 (L : Int) (a b : Option Addr) (n m c d : Nat) (w : World) (h : n + m ≤ 1048576) :
    Calls Try.prog 4 #[.int .i64 L, .slice a n c, .slice b m d] w fun e w' => e = .returned (.bool true) ∧ w' = w := by
  go_enter Try.func4, Try.ntmps4
  go_wp2
  go_ret
  exact ⟨rfl, rfl⟩
theorem bytes4_no (L : Int) (a b : Option Addr) (n m c d : Nat) (w : World) (hn : n ≤ maxLen) (hm : m ≤ maxLen) (h : 1048576 < n + m) :
    Calls Try.prog 4 #[.int .i64 L, .slice a n c, .slice b m d] w fun e w' => e = .returned (.bool false) ∧ w' = w := by
  unfold maxLen at hn hm
  by_cases h1 : 1048576 < n
  · go_enter Try.func4, Try.ntmps4
    go_wp2
    go_ret
    exact ⟨rfl, rfl⟩
  · by_cases h2 : 1048576 < m
    · go_enter Try.func4, Try.ntmps4
      go_wp2
      go_ret
      exact ⟨rfl, rfl⟩
    · go_enter Try.func4, Try.ntmps4
      go_wp2
      go_ret
      exact ⟨rfl, rfl⟩

/-! ### indexNewlineBytes -/
theorem inb_empty (a : Option Addr) (c : Nat) (w : World) :
    Calls Try.prog 5 #[.slice a 0 c] w fun e w' => e = .returned (.int .i64 (-1)) ∧ w' = w := by
  go_enter Try.func5, Try.ntmps5
  go_wp2
  go_loop [3] (fun v => v = .int .i64 0) (fun _ => 0)
  case atStart => rfl
  case round =>
    subst hrel
    go_wp2
    go_ret
    exact ⟨rfl, rfl⟩

theorem byte_ne (l : List UInt8) (k : Nat) (h : l[k]? ≠ some 10) (hk : k < l.length) : (((l.getD k 0).toNat : Int) == 10) = false := by
  refine beq_eq_false_iff_ne.2 fun e => h ?_
  have e' : (l.getD k 0).toNat = (10 : UInt8).toNat := by simpa using (by omega : (l.getD k 0).toNat = 10)
  have := UInt8.toNat_inj.1 e'
  rw [List.getD, List.getElem?_eq_getElem hk] at this
  rw [List.getElem?_eq_getElem hk]
  exact congrArg some this

theorem inb_row_no (b o n c : Nat) (l : List UInt8) (w : World) (hl : l.length = n) (hn : n ≤ 1048577) (h : RowAt w b o l) (hno : Plain.NoNl l) :
    Calls Try.prog 5 #[.slice (some ⟨b, o, none⟩) n c] w fun e w' => e = .returned (.int .i64 (-1)) ∧ w' = w := by
  have H : Hid (RowAt w b o l) := h
  have HN : Hid (Plain.NoNl l) := hno
  have HL : Hid (l.length = n) := hl
  clear h hno hl
  go_enter Try.func5, Try.ntmps5
  go_wp2
  go_loop [3] (fun v => ∃ k : Nat, k ≤ n ∧ v = .int .i64 k) (fun v => n - (intOf v).toNat)
  case atStart => exact ⟨0, Nat.zero_le _, rfl⟩
  case round =>
    obtain ⟨k, hk, rfl⟩ := hrel
    rcases Nat.lt_or_ge k n with hlt | hge
    · have hi : (k : Int) < (n : Int) := by omega
      have hc := H.out k (by rw [HL.out]; exact hlt)
      have hne := byte_ne l k (HN.out k) (by rw [HL.out]; exact hlt)
      generalize ((l.getD k 0).toNat : Int) = z at *
      go_wp2
      go_round
      case rel => exact ⟨k + 1, by omega, by go_num⟩
      case measure => simp [intOf]; omega
    · have hi : ¬ (k : Int) < (n : Int) := by omega
      go_wp2
      go_ret
      exact ⟨rfl, rfl⟩

theorem inb_row_at (b o n c i : Nat) (l : List UInt8) (w : World) (hl : l.length = n) (hn : n ≤ 1048577) (h : RowAt w b o l) (hat : Plain.NlAt l i) :
    Calls Try.prog 5 #[.slice (some ⟨b, o, none⟩) n c] w fun e w' => e = .returned (.int .i64 (i : Int)) ∧ w' = w := by
  have hin := hat.lt
  rw [hl] at hin
  have H : Hid (RowAt w b o l) := h
  have HN : Hid (Plain.NlAt l i) := hat
  have HL : Hid (l.length = n) := hl
  clear h hat hl
  go_enter Try.func5, Try.ntmps5
  go_wp2
  go_loop [3] (fun v => ∃ k : Nat, k ≤ i ∧ v = .int .i64 k) (fun v => n - (intOf v).toNat)
  case atStart => exact ⟨0, Nat.zero_le _, rfl⟩
  case round =>
    obtain ⟨k, hk, rfl⟩ := hrel
    have hlt : k < n := by omega
    have hi : (k : Int) < (n : Int) := by omega
    have hc := H.out k (by rw [HL.out]; exact hlt)
    by_cases hki : k = i
    · have he : (((l.getD k 0).toNat : Int) == 10) = true := by
        rw [hki, List.getD, HN.out.1]; rfl
      have HK : Hid (k = i) := hki
      clear hki
      generalize ((l.getD k 0).toNat : Int) = z at *
      go_wp2
      go_ret
      exact ⟨ret_i64 (by have := HK.out; omega), rfl⟩
    · have hne := byte_ne l k (HN.out.2 k (by omega)) (by rw [HL.out]; exact hlt)
      generalize ((l.getD k 0).toNat : Int) = z at *
      go_wp2
      go_round
      case rel => exact ⟨k + 1, by omega, by go_num⟩
      case measure => simp [intOf]; omega

theorem inb_no (a : Option Addr) (n c : Nat) (l : List UInt8) (w : World) (hn : n ≤ 1048577) (h : Inc w a n l) (hno : Plain.NoNl l) :
    Calls Try.prog 5 #[.slice a n c] w fun e w' => e = .returned (.int .i64 (-1)) ∧ w' = w := by
  by_cases h0 : n = 0
  · subst h0; exact inb_empty a c w
  · cases a with
    | none => exact absurd (h.nil rfl) h0
    | some x =>
      obtain ⟨b, o, rfl, hr⟩ := h.row x rfl (by omega)
      exact inb_row_no b o n c l w h.len hn hr hno
theorem inb_at (a : Option Addr) (n c i : Nat) (l : List UInt8) (w : World) (hn : n ≤ 1048577) (h : Inc w a n l) (hat : Plain.NlAt l i) :
    Calls Try.prog 5 #[.slice a n c] w fun e w' => e = .returned (.int .i64 (i : Int)) ∧ w' = w := by
  have hin := hat.lt
  rw [h.len] at hin
  cases a with
  | none => have := h.nil rfl; omega
  | some x =>
    obtain ⟨b, o, rfl, hr⟩ := h.row x rfl (by omega)
    exact inb_row_at b o n c i l w h.len hn hr hat

/-! ### a copy first -/
theorem only_setCells (b : Nat) : ∀ (vs : List Value) (o : Nat) (w : World), Only b w (w.setCells b o vs)
  | [], _, _ => Only.refl _ _
  | v :: vs, o, _ => ((Only.refl _ _).setCell o v).trans (only_setCells b vs (o + 1) _)

theorem copied (x : Addr) (n c : Nat) (l : List UInt8) (w W : World) (hW : W = w.alloc (.cells (zeros n) 5)) (h : Inc w (some x) n l) (ty : TypeId) :
    ∃ w', (Builtin.copy_ #[22, 22] ty #[.slice (some ⟨w.heap.size, 0, none⟩) n n, .slice (some x) n c]).run Try.prog W = .ok (goInt n) w' ∧ RowAt w' w.heap.size 0 l ∧ Below w.heap.size w w' ∧ w'.heap.size = w.heap.size + 1 := by
  subst hW
  have hs1 : (Try.prog.info? 5).map (·.size) = some 1 := by kernel_rfl
  by_cases h0 : n = 0
  · subst h0
    refine ⟨_, run_copy_none _ 22 22 ty 5 _ _ 0 0 0 c Try.underlying22 hs1 rfl, ?_, (Below.refl _ _).alloc (Nat.le_refl _) _, by simp⟩
    intro i hi; rw [h.len] at hi; omega
  · obtain ⟨b, o, rfl, hr⟩ := h.row x rfl (by omega)
    have hbl : b < w.heap.size := by
      have := hr 0 (by rw [h.len]; omega)
      rcases Nat.lt_or_ge b w.heap.size with hb | hb
      · exact hb
      · simp [World.cell?, Array.getElem?_eq_none hb] at this
    have hlen := h.len
    have hcs : (l.map (fun u => Value.int .u8 (u.toNat : Int))).length = n := by rw [List.length_map, hlen]
    have hrun := run_copy_cells (P := Try.prog) (w.alloc (.cells (zeros n) 5)) 22 22 ty 5 w.heap.size 0 n n ⟨b, o, none⟩ n c (l.map (fun u => Value.int .u8 (u.toNat : Int))) Try.underlying22 hs1 (by rw [hcs]; exact (Nat.min_self n).symm)
      (fun j v hj => by
        have hjl : j < l.length := by have := (List.getElem?_eq_some_iff.1 hj).1; simpa using this
        have e : (⟨b, o, none⟩ : Addr).add j = ⟨b, o + j, none⟩ := by unfold Addr.add; split <;> simp_all
        rw [e, World.cell?_alloc_lt _ _ _ hbl, hr j hjl, ← hj]
        simp [List.getD, hjl])
      (fun j hj => by rw [Nat.zero_add, cellZ _ _ _ (by omega)]; rfl)
      (fun j _ => by rw [frozen?_alloc_cells]; simp [World.frozen?])
      (fun v hv => by obtain ⟨u, _, rfl⟩ := List.mem_map.1 hv; rfl)
    rw [hcs] at hrun
    refine ⟨_, hrun, ?_, ?_, ?_⟩
    · intro i hi
      rw [World.cell?_setCells_in w.heap.size _ 0 _ (fun j hj => by rw [Nat.zero_add, cellZ _ _ _ (by omega)]; rfl) i (by simpa using hi)]
      simp [List.getD, hi]
    · exact ((Below.refl _ _).alloc (Nat.le_refl _) _).trans ((only_setCells w.heap.size _ 0 _).below (Nat.le_refl _))
    · rw [(only_setCells w.heap.size _ 0 _).size, World.size_alloc]

theorem make_n (n : Nat) (hn : n ≤ 1048577) (w : World) : (Instr.makeSlice 22 (.int .i64 (n : Int)) (.int .i64 (n : Int))).run Try.prog w = .ok (.slice (some ⟨w.heap.size, 0, none⟩) n n) (w.alloc (.cells (zeros n) 5)) :=
  make0 n n (by omega) (Int.le_refl _) (by omega) w

set_option maxRecDepth 100000 in
set_option maxHeartbeats 400000 in
theorem far (L : Int) (a b : Option Addr) (n m c d : Nat) (w : World) (hn : n ≤ maxLen) (hm : m ≤ maxLen) (h : 1048576 < n + m) :
    Calls Try.prog 3 #[.int .i64 L, .slice a n c, .slice b m d] w fun e w' => e = .returned (.bool true) ∧ Below w.heap.size w w' := by
  go_enter Try.func3, Try.ntmps3
  go_wp2_with (go_at_call 4; refine (bytes4_no _ _ _ _ _ _ _ _ hn hm h).mono ?_; rintro e w' ⟨rfl, rfl⟩)
  go_ret
  exact ⟨rfl, Below.refl _ _⟩

set_option maxRecDepth 100000 in
set_option maxHeartbeats 400000 in
theorem out (L : Int) (a b : Option Addr) (n m c d : Nat) (w : World) (h : n + m ≤ 1048576) (hL : L < 0 ∨ 9223372036854775807 ≤ L) :
    Calls Try.prog 3 #[.int .i64 L, .slice a n c, .slice b m d] w fun e w' => e = .returned (.bool true) ∧ Below w.heap.size w w' := by
  by_cases h1 : L < 0
  · go_enter Try.func3, Try.ntmps3
    go_wp2_with (go_at_call 4; refine (bytes4 _ _ _ _ _ _ _ _ h).mono ?_; rintro e w' ⟨rfl, rfl⟩)
    go_ret
    exact ⟨rfl, Below.refl _ _⟩
  · have h2 : 9223372036854775807 ≤ L := by omega
    clear hL
    go_enter Try.func3, Try.ntmps3
    go_wp2_with (go_at_call 4; refine (bytes4 _ _ _ _ _ _ _ _ h).mono ?_; rintro e w' ⟨rfl, rfl⟩)
    go_ret
    exact ⟨rfl, Below.refl _ _⟩

set_option maxRecDepth 100000 in
set_option maxHeartbeats 400000 in
theorem aline (L : Int) (a b : Option Addr) (n m c d i : Nat) (la : List UInt8) (w : World) (h : n + m ≤ 1048576) (h0 : 0 ≤ L) (h1 : L < 9223372036854775807) (ha : Inc w a n la) (hi : Plain.NlAt la i) :
    Calls Try.prog 3 #[.int .i64 L, .slice a n c, .slice b m d] w fun e w' => e = .returned (.bool true) ∧ Below w.heap.size w w' := by
  go_enter Try.func3, Try.ntmps3
  go_wp2_with (first
    | (go_at_call 4; refine (bytes4 _ _ _ _ _ _ _ _ h).mono ?_; rintro e w' ⟨rfl, rfl⟩)
    | (go_at_call 5; refine (inb_at _ _ _ i la _ (by omega) ha hi).mono ?_; rintro e w' ⟨rfl, rfl⟩))
  go_ret
  exact ⟨rfl, Below.refl _ _⟩

end Go.Proofs.Qxb6608719a.Ln
