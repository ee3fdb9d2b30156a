/-
  THE WALKS of scanWholeLines and what stands round it.
-/
import Derived.Test.Qxb6608719aDoorProg
import Derived.WalkKit
import Derived.WalkSpells
import Derived.WalkLawsBesides
import Derived.Deep.QuietTactic
import Derived.BigQuiet
import Derived.Deep.LoopGhost
import Derived.Lib.BytesEntry
import Derived.Test.Qxb6608719aDoorPlain
namespace Go.Proofs.Qxb6608719aDoor.Sc
open Go.RowKit

/-! ### What a call that stores into block t alone leaves -/
structure Only (t : Nat) (w w' : World) : Prop where
  os : w'.os = w.os
  tape : w'.tape = w.tape
  output : w'.output = w.output
  size : w'.heap.size = w.heap.size
  frozen : ∀ a, w'.frozen? a = w.frozen? a
  block : ∀ k, k ≠ t → w'.heap[k]? = w.heap[k]?

theorem Only.refl (t : Nat) (w : World) : Only t w w := ⟨rfl, rfl, rfl, rfl, fun _ => rfl, fun _ _ => rfl⟩
theorem Only.drewN {t : Nat} {w w' : World} (h : Only t w w') (n : Nat) : Only t w (w'.drewN n) := ⟨h.os, h.tape, h.output, h.size, h.frozen, h.block⟩
theorem Only.setCell {t : Nat} {w w' : World} (h : Only t w w') (o : Nat) (v : Value) : Only t w (w'.setCell ⟨t, o, none⟩ v) :=
  ⟨h.os, h.tape, h.output, by rw [World.size_setCell]; exact h.size, fun a => (World.frozen?_setCell _ _ _ _).trans (h.frozen a),
    fun k hk => (Below.heap_setCell _ _ _ _ hk).trans (h.block k hk)⟩
theorem Only.trans {t : Nat} {w w' w'' : World} (h : Only t w w') (k : Only t w' w'') : Only t w w'' :=
  ⟨k.os.trans h.os, k.tape.trans h.tape, k.output.trans h.output, k.size.trans h.size, fun a => (k.frozen a).trans (h.frozen a), fun i hi => (k.block i hi).trans (h.block i hi)⟩
theorem Only.cell {t : Nat} {w w' : World} (h : Only t w w') {p : Addr} (hp : p.block ≠ t) : w'.cell? p = w.cell? p := World.cell?_of_block (w := w) (h.block p.block hp)
theorem Only.below {t B : Nat} {w w' : World} (h : Only t w w') (hB : B ≤ t) : Below B w w' :=
  ⟨h.os, h.tape, h.output, by rw [h.size]; exact Nat.le_refl _, fun k hk => h.block k (by omega)⟩

/-! ### A row of bytes in memory -/
def RowAt (w : World) (b o : Nat) (l : List UInt8) : Prop := ∀ i, i < l.length → w.cell? ⟨b, o + i, none⟩ = some (.int .u8 ((l.getD i 0).toNat : Int))

theorem RowAt.take {w : World} {b o : Nat} {l : List UInt8} (h : RowAt w b o l) (k : Nat) : RowAt w b o (l.take k) := fun i hi => by
  rw [List.length_take] at hi
  rw [h i (by omega)]
  simp [List.getD, show i < k by omega]
theorem RowAt.drop {w : World} {b o : Nat} {l : List UInt8} (h : RowAt w b o l) (k : Nat) : RowAt w b (o + k) (l.drop k) := fun i hi => by
  rw [List.length_drop] at hi
  have := h (k + i) (by omega)
  rw [Nat.add_assoc, this]
  simp [List.getD]
theorem RowAt.nums {w : World} {b o : Nat} {l : List UInt8} (h : RowAt w b o l) : ∀ i, i < l.length → w.cell? ⟨b, o + i, none⟩ = some (.int .u8 ((Plain.nums l).getD i 0)) := fun i hi => by
  rw [h i hi, Plain.nums_getD l i hi]
theorem RowAt.only {t : Nat} {w w' : World} {b o : Nat} {l : List UInt8} (h : RowAt w b o l) (k : Only t w w') (hb : b ≠ t) : RowAt w' b o l := fun i hi => by
  rw [k.cell (p := ⟨b, o + i, none⟩) hb]; exact h i hi
theorem RowAt.below {B : Nat} {w w' : World} {b o : Nat} {l : List UInt8} (h : RowAt w b o l) (k : Below B w w') (hb : b < B) : RowAt w' b o l := fun i hi => by
  rw [k.cell (p := ⟨b, o + i, none⟩) hb]; exact h i hi
theorem rowAt_nil (w : World) (b o : Nat) : RowAt w b o [] := fun i hi => by simp at hi

/-! ### bytes.IndexByte -/
set_option maxHeartbeats 1000000 in
theorem bidx (b o n c : Nat) (l : List UInt8) (w : World) (hn : l.length = n) (h : RowAt w b o l) :
    Calls Tryd.prog 40 #[.slice (some ⟨b, o, none⟩) n c, .int .u8 10] w fun e w' => e = .returned (.int .i64 (Lib.indexByte l 10)) ∧ w' = w := by
  subst hn
  go_enter Tryd.func40, Tryd.ntmps40
  go_wp2
  rw [run_callFunc_extern Tryd.func46 (by kernel_rfl) (by kernel_rfl) (by kernel_rfl) (e := Extern.BytealgIndexByte.indexByte) (by kernel_rfl), Lib.run_indexByteSlice w b o l.length c (Plain.nums l) (Plain.nums_length l) h.nums 10]
  simp only [Result.andThen]
  rw [Oper.upon_value]
  go_wp2
  go_ret
  exact ⟨by rw [Plain.nums_bytes]; rfl, rfl⟩

set_option maxHeartbeats 1000000 in
theorem bidx_nil (w : World) :
    Calls Tryd.prog 40 #[.slice none 0 0, .int .u8 10] w fun e w' => e = .returned (.int .i64 (-1)) ∧ w' = w := by
  go_enter Tryd.func40, Tryd.ntmps40
  go_wp2
  rw [run_callFunc_extern Tryd.func46 (by kernel_rfl) (by kernel_rfl) (by kernel_rfl) (e := Extern.BytealgIndexByte.indexByte) (by kernel_rfl), Lib.run_indexByteNil w 0 0 10]
  simp only [Result.andThen]
  rw [Oper.upon_value]
  go_wp2
  go_ret
  exact ⟨rfl, rfl⟩

/-! ### The scanner's own fields -/
structure Scn (w : World) (t : Nat) (v0 : Value) (L P O R : Int) : Prop where
  c0 : w.cell? ⟨t, 0, none⟩ = some v0
  c1 : w.cell? ⟨t, 1, none⟩ = some (.int .i64 L)
  c2 : w.cell? ⟨t, 2, none⟩ = some (.int .i64 P)
  c3 : w.cell? ⟨t, 3, none⟩ = some (.int .i64 O)
  c4 : w.cell? ⟨t, 4, none⟩ = some (.int .i64 R)
  fz : ∀ o, w.frozen? ⟨t, o, none⟩ = false

theorem Scn.drewN {w : World} {t : Nat} {v0 : Value} {L P O R : Int} (h : Scn w t v0 L P O R) (n : Nat) : Scn (w.drewN n) t v0 L P O R := ⟨h.c0, h.c1, h.c2, h.c3, h.c4, h.fz⟩
theorem Scn.set2 {w : World} {t : Nat} {v0 : Value} {L P O R : Int} (h : Scn w t v0 L P O R) (q : Int) : Scn (w.setCell ⟨t, 2, none⟩ (.int .i64 q)) t v0 L q O R where
  c0 := by rw [World.cell?_setCell_other _ _ _ _ (by simp)]; exact h.c0
  c1 := by rw [World.cell?_setCell_other _ _ _ _ (by simp)]; exact h.c1
  c2 := World.cell?_setCell_same _ _ _ h.c2
  c3 := by rw [World.cell?_setCell_other _ _ _ _ (by simp)]; exact h.c3
  c4 := by rw [World.cell?_setCell_other _ _ _ _ (by simp)]; exact h.c4
  fz := fun o => by rw [World.frozen?_setCell]; exact h.fz o
theorem Scn.set3 {w : World} {t : Nat} {v0 : Value} {L P O R : Int} (h : Scn w t v0 L P O R) (q : Int) : Scn (w.setCell ⟨t, 3, none⟩ (.int .i64 q)) t v0 L P q R where
  c0 := by rw [World.cell?_setCell_other _ _ _ _ (by simp)]; exact h.c0
  c1 := by rw [World.cell?_setCell_other _ _ _ _ (by simp)]; exact h.c1
  c2 := by rw [World.cell?_setCell_other _ _ _ _ (by simp)]; exact h.c2
  c3 := World.cell?_setCell_same _ _ _ h.c3
  c4 := by rw [World.cell?_setCell_other _ _ _ _ (by simp)]; exact h.c4
  fz := fun o => by rw [World.frozen?_setCell]; exact h.fz o
theorem Scn.set4 {w : World} {t : Nat} {v0 : Value} {L P O R : Int} (h : Scn w t v0 L P O R) (q : Int) : Scn (w.setCell ⟨t, 4, none⟩ (.int .i64 q)) t v0 L P O q where
  c0 := by rw [World.cell?_setCell_other _ _ _ _ (by simp)]; exact h.c0
  c1 := by rw [World.cell?_setCell_other _ _ _ _ (by simp)]; exact h.c1
  c2 := by rw [World.cell?_setCell_other _ _ _ _ (by simp)]; exact h.c2
  c3 := by rw [World.cell?_setCell_other _ _ _ _ (by simp)]; exact h.c3
  c4 := World.cell?_setCell_same _ _ _ h.c4
  fz := fun o => by rw [World.frozen?_setCell]; exact h.fz o
theorem Scn.only {t u : Nat} {w w' : World} {v0 : Value} {L P O R : Int} (h : Scn w t v0 L P O R) (k : Only u w w') (hb : t ≠ u) : Scn w' t v0 L P O R where
  c0 := by rw [k.cell (p := ⟨t, 0, none⟩) hb]; exact h.c0
  c1 := by rw [k.cell (p := ⟨t, 1, none⟩) hb]; exact h.c1
  c2 := by rw [k.cell (p := ⟨t, 2, none⟩) hb]; exact h.c2
  c3 := by rw [k.cell (p := ⟨t, 3, none⟩) hb]; exact h.c3
  c4 := by rw [k.cell (p := ⟨t, 4, none⟩) hb]; exact h.c4
  fz := fun o => by rw [k.frozen]; exact h.fz o
theorem Scn.below {t B : Nat} {w w' : World} {v0 : Value} {L P O R : Int} (h : Scn w t v0 L P O R) (k : Below B w w') (hb : t < B) : Scn w' t v0 L P O R where
  c0 := by rw [k.cell (p := ⟨t, 0, none⟩) hb]; exact h.c0
  c1 := by rw [k.cell (p := ⟨t, 1, none⟩) hb]; exact h.c1
  c2 := by rw [k.cell (p := ⟨t, 2, none⟩) hb]; exact h.c2
  c3 := by rw [k.cell (p := ⟨t, 3, none⟩) hb]; exact h.c3
  c4 := by rw [k.cell (p := ⟨t, 4, none⟩) hb]; exact h.c4
  fz := fun o => by rw [k.frozen (p := ⟨t, o, none⟩) hb]; exact h.fz o

/-! ### scanWholeLines -/
/-- No newline, not at the end of the file, no longer than the limit: wait. -/
theorem swl_wait (t b o n c : Nat) (l : List UInt8) (v0 : Value) (L P O R : Int) (w : World) (hn : l.length = n) (h : RowAt w b o l) (hs : Scn w t v0 L P O R) (hl : Plain.NoNl l) (hL : (n : Int) ≤ L) :
    Calls Tryd.prog 34 #[.pointer (some ⟨t, 0, none⟩), .slice (some ⟨b, o, none⟩) n c, .bool false] w fun e w' => e = .returned (.tuple #[.int .i64 0, .slice none 0 0, .nilIface]) ∧ w' = w := by
  obtain ⟨c0, c1, c2, c3, c4, fz⟩ := hs
  go_enter Tryd.func34, Tryd.ntmps34
  go_wp2_with fail
  refine (bidx b o n c l w hn h).mono ?_
  rintro e w ⟨rfl, rfl⟩
  rw [hl.index]
  go_wp2_with fail
  go_ret3
  exact ⟨rfl, rfl⟩
theorem swl_wait_nil (t : Nat) (v0 : Value) (L P O R : Int) (w : World) (hs : Scn w t v0 L P O R) (hL : 0 ≤ L) :
    Calls Tryd.prog 34 #[.pointer (some ⟨t, 0, none⟩), .slice none 0 0, .bool false] w fun e w' => e = .returned (.tuple #[.int .i64 0, .slice none 0 0, .nilIface]) ∧ w' = w := by
  obtain ⟨c0, c1, c2, c3, c4, fz⟩ := hs
  go_enter Tryd.func34, Tryd.ntmps34
  go_wp2_with fail
  refine (bidx_nil w).mono ?_
  rintro e w ⟨rfl, rfl⟩
  go_wp2_with fail
  go_ret3
  exact ⟨rfl, rfl⟩
/-- No newline, not at the end of the file, longer than the limit: passed over. -/
theorem swl_pass (t b o n c : Nat) (l : List UInt8) (v0 : Value) (L P O R : Int) (w : World) (hn : l.length = n) (hm : n ≤ 1048577) (hP : 0 ≤ P) (hP' : P ≤ 1048577) (h : RowAt w b o l) (hs : Scn w t v0 L P O R) (hl : Plain.NoNl l) (hL : L < (n : Int)) :
    Calls Tryd.prog 34 #[.pointer (some ⟨t, 0, none⟩), .slice (some ⟨b, o, none⟩) n c, .bool false] w fun e w' => e = .returned (.tuple #[.int .i64 n, .slice none 0 0, .nilIface]) ∧ Only t w w' ∧ Scn w' t v0 L (P + n) O R := by
  obtain ⟨c0, c1, c2, c3, c4, fz⟩ := id hs
  go_enter Tryd.func34, Tryd.ntmps34
  go_wp2_with fail
  refine (bidx b o n c l w hn h).mono ?_
  rintro e w ⟨rfl, rfl⟩
  rw [hl.index]
  go_wp2_with fail
  go_ret3
  exact ⟨rfl, (Only.refl _ _).setCell _ _, hs.set2 _⟩
/-- No newline, at the end of the file. -/
theorem swl_tail (t b o n c : Nat) (l : List UInt8) (v0 : Value) (L P O R : Int) (w : World) (hn : l.length = n) (hm : n ≤ 1048577) (hP : 0 ≤ P) (hP' : P ≤ 1048577) (h : RowAt w b o l) (hs : Scn w t v0 L P O R) (hl : Plain.NoNl l) :
    Calls Tryd.prog 34 #[.pointer (some ⟨t, 0, none⟩), .slice (some ⟨b, o, none⟩) n c, .bool true] w fun e w' => e = .returned (.tuple #[.int .i64 n, .slice none 0 0, .nilIface]) ∧ Only t w w' ∧ Scn w' t v0 L P O (P + n) := by
  obtain ⟨c0, c1, c2, c3, c4, fz⟩ := id hs
  go_enter Tryd.func34, Tryd.ntmps34
  go_wp2_with fail
  refine (bidx b o n c l w hn h).mono ?_
  rintro e w ⟨rfl, rfl⟩
  rw [hl.index]
  go_wp2_with fail
  go_ret3
  exact ⟨rfl, (Only.refl _ _).setCell _ _, hs.set4 _⟩
/-- A newline at i, nothing passed over: the line. -/
theorem swl_line (t b o n c i : Nat) (l : List UInt8) (v0 : Value) (L O R : Int) (at_ : Bool) (w : World) (hn : l.length = n) (hm : n ≤ 1048577) (hc : n ≤ c) (h : RowAt w b o l) (hs : Scn w t v0 L 0 O R) (hl : Plain.NlAt l i) :
    Calls Tryd.prog 34 #[.pointer (some ⟨t, 0, none⟩), .slice (some ⟨b, o, none⟩) n c, .bool at_] w fun e w' => e = .returned (.tuple #[.int .i64 (i + 1), .slice (some ⟨b, o, none⟩) i c, .nilIface]) ∧ Only t w w' ∧ Scn w' t v0 L 0 0 R := by
  have hlt := hl.lt
  obtain ⟨c0, c1, c2, c3, c4, fz⟩ := id hs
  have hci : (i : Int) ≤ (c : Int) := by omega
  go_enter Tryd.func34, Tryd.ntmps34
  go_wp2_with fail
  refine (bidx b o n c l w hn h).mono ?_
  rintro e w ⟨rfl, rfl⟩
  rw [hl.index]
  go_wp2_with fail
  go_quiet (fail)
  go_wp2_with fail
  go_ret3
  exact ⟨rfl, ((Only.refl _ _).setCell _ _).drewN _, (hs.set3 _).drewN _⟩
/-- A newline at i, the line's head passed over: an empty token. -/
theorem swl_over (t b o n c i : Nat) (l : List UInt8) (v0 : Value) (L P O R : Int) (at_ : Bool) (w : World) (hn : l.length = n) (hm : n ≤ 1048577) (hc : n ≤ c) (hP : 0 < P) (hP' : P ≤ 1048577) (h : RowAt w b o l) (hs : Scn w t v0 L P O R) (hl : Plain.NlAt l i) :
    Calls Tryd.prog 34 #[.pointer (some ⟨t, 0, none⟩), .slice (some ⟨b, o, none⟩) n c, .bool at_] w fun e w' => e = .returned (.tuple #[.int .i64 (i + 1), .slice (some ⟨b, o, none⟩) 0 c, .nilIface]) ∧ Only t w w' ∧ Scn w' t v0 L 0 (P + i) R := by
  have hlt := hl.lt
  obtain ⟨c0, c1, c2, c3, c4, fz⟩ := id hs
  go_enter Tryd.func34, Tryd.ntmps34
  go_wp2_with fail
  refine (bidx b o n c l w hn h).mono ?_
  rintro e w ⟨rfl, rfl⟩
  rw [hl.index]
  go_wp2_with fail
  go_quiet (fail)
  go_wp2_with fail
  go_ret3
  exact ⟨rfl, ((((Only.refl _ _).setCell _ _).setCell _ _).setCell _ _).drewN _, (((hs.set3 _).set3 _).set2 _).drewN _⟩

end Go.Proofs.Qxb6608719aDoor.Sc
