/-
  THE WALKS of the scanner's maker.
-/
import Derived.Test.Qxb6608719aDoorWalks2
import Derived.Laws.EntriesVeiled
import Derived.Deep.RegionWith
namespace Go.Proofs.Qxb6608719aDoor.Sc
open Go.RowKit

theorem mkReader (s : ByteArray) (w : World) :
    Calls Tryd.prog 26 #[.string s] w fun e w' => e = .returned (.pointer (some ⟨w.heap.size, 0, none⟩)) ∧ w' = w.alloc (.cells #[.string s, .int .i64 0, .int .i64 (-1)] 58) := by
  go_enter Tryd.func26, Tryd.ntmps26
  go_wp2
  go_ret
  exact ⟨rfl, rfl⟩

def scnCells (r f : Value) (mx : Int) (buf : Value) : Array Value :=
  #[r, f, .int .i64 mx, .slice none 0 0, buf, .int .i64 0, .int .i64 0, .nilIface, .int .i64 0, .bool false, .bool false]

theorem mkScanner (r : Value) (w : World) :
    Calls Tryd.prog 31 #[.iface 43 r] w fun e w' => e = .returned (.pointer (some ⟨w.heap.size, 0, none⟩)) ∧
      w' = w.alloc (.cells #[.iface 43 r, .func (.func 39) #[] #[], .int .i64 65536, .slice none 0 0, .slice none 0 0, .int .i64 0, .int .i64 0, .nilIface, .int .i64 0, .bool false, .bool false] 61) := by
  go_enter Tryd.func31, Tryd.ntmps31
  go_wp2
  go_ret
  exact ⟨rfl, rfl⟩

theorem buffer (sb g : Nat) (m : Nat) (L : Int) (w : World) (hm : 0 < m) (h9 : w.cell? ⟨sb, 9, none⟩ = some (.bool false)) (f2 : w.frozen? ⟨sb, 2, none⟩ = false) (f4 : w.frozen? ⟨sb, 4, none⟩ = false)
    (v2 v4 : Value) (h2 : w.cell? ⟨sb, 2, none⟩ = some v2) (h4 : w.cell? ⟨sb, 4, none⟩ = some v4) :
    Calls Tryd.prog 32 #[.pointer (some ⟨sb, 0, none⟩), .slice (some ⟨g, 0, none⟩) 0 m, .int .i64 L] w fun e w' => e = .returned (.tuple #[]) ∧
      w' = (w.setCell ⟨sb, 4, none⟩ (.slice (some ⟨g, 0, none⟩) m m)).setCell ⟨sb, 2, none⟩ (.int .i64 L) := by
  go_enter Tryd.func32, Tryd.ntmps32
  go_wp2
  go_end0
  exact ⟨rfl, rfl⟩

theorem split (sb tb : Nat) (w : World) (h9 : w.cell? ⟨sb, 9, none⟩ = some (.bool false)) (f1 : w.frozen? ⟨sb, 1, none⟩ = false)
    (v1 : Value) (h1 : w.cell? ⟨sb, 1, none⟩ = some v1) :
    Calls Tryd.prog 33 #[.pointer (some ⟨sb, 0, none⟩), .func (.func 34) #[.pointer (some ⟨tb, 0, none⟩)] #[]] w fun e w' => e = .returned (.tuple #[]) ∧
      w' = w.setCell ⟨sb, 1, none⟩ (.func (.func 34) #[.pointer (some ⟨tb, 0, none⟩)] #[]) := by
  go_enter Tryd.func33, Tryd.ntmps33
  go_wp2
  go_end0
  exact ⟨rfl, rfl⟩

def zeros (n : Nat) : Array Value := madeCells #[.int .u8 0] n
theorem zeros_size (n : Nat) : (zeros n).size = n := size_madeCells _ _
theorem info5 : (Tryd.prog.info? 5).map (fun i => (i.zero, i.size, i.bytes)) = some (some (.int .u8 0), 1, 1) := by kernel_rfl
theorem make0 (l c : Int) (h0 : 0 ≤ l) (hlc : l ≤ c) (hc : c ≤ 4194304) (w : World) :
    (Instr.makeSlice 31 (.int .i64 l) (.int .i64 c)).run Tryd.prog w = .ok (.slice (some ⟨w.heap.size, 0, none⟩) l.toNat c.toNat) (w.alloc (.cells (zeros c.toNat) 5)) := by
  obtain ⟨i0, hi, hz0, hz1, hz2⟩ := info_parts info5
  have h := run_make (P := Tryd.prog) w 31 5 i0 (.int .u8 0) Tryd.underlying31 hi hz0 .i64 .i64 l c h0 hlc (by rw [hz2]; omega) (by omega)
  rw [hz1, Nat.mul_one] at h
  exact h

theorem cellZ (w : World) (n i : Nat) (h : i < n) : (w.alloc (.cells (zeros n) 5)).cell? ⟨w.heap.size, i, none⟩ = some (.int .u8 0) := by
  rw [World.cell?_alloc_new]
  have : (zeros n).toList = List.replicate n (.int .u8 0) := toList_madeCells_one _ _
  rw [← Array.getElem?_toList, this, List.getElem?_replicate, if_pos h]

/-- The world behind the maker: the scanner, the trace scanner round it, the buffer. -/
def made (rb : Nat) (L : Int) (m : Nat) (w : World) : World :=
  ((w.alloc (.cells #[.iface 43 (.pointer (some ⟨rb, 0, none⟩)), .func (.func 34) #[.pointer (some ⟨w.heap.size + 1, 0, none⟩)] #[], .int .i64 (L + 1), .slice none 0 0, .slice (some ⟨w.heap.size + 2, 0, none⟩) m m, .int .i64 0, .int .i64 0, .nilIface, .int .i64 0, .bool false, .bool false] 61)).alloc
    (.cells #[.pointer (some ⟨w.heap.size, 0, none⟩), .int .i64 L, .int .i64 0, .int .i64 0, .int .i64 0] 48)).alloc (.cells (zeros m) 5)

theorem wrap_add1 (L : Int) (h0 : 0 ≤ L) (h1 : L < 9223372036854775807) : IntKind.i64.wrap (L + 1) = L + 1 := by
  rw [IntKind.wrap_i64]; omega

set_option maxHeartbeats 1000000 in
theorem mkTrace_small (rb : Nat) (L : Int) (w : World) (h0 : 0 ≤ L) (h1 : L + 1 < 65536) :
    Calls Tryd.prog 25 #[.iface 43 (.pointer (some ⟨rb, 0, none⟩)), .int .i64 L] w fun e w' => e = .returned (.pointer (some ⟨w.heap.size + 1, 0, none⟩)) ∧ w' = (made rb L (L + 1).toNat w).drew := by
  have hmk := make0 0 (L + 1) (Int.le_refl _) (by omega) (by omega)
  have hpos : 0 < (L + 1).toNat := by omega
  have hw := wrap_add1 L h0 (by omega)
  go_enter Tryd.func25, Tryd.ntmps25
  go_wp2_with (first | (go_at_call 31; refine (mkScanner _ _).mono ?_; rintro e w' ⟨rfl, rfl⟩))
  go_region_with (go_at_call 32; refine (buffer _ _ _ _ _ hpos ?_ ?_ ?_ (.int .i64 65536) (.slice none 0 0) ?_ ?_).mono ?_; go_simp; go_simp; go_simp; go_simp; go_simp; rintro e w' ⟨rfl, rfl⟩)
  all_goals
    go_wp2_with fail
    refine (split _ _ _ ?_ ?_ (.func (.func 39) #[] #[]) ?_).mono ?_
    · go_simp
    · go_simp
    · go_simp
    · rintro e w1 ⟨rfl, rfl⟩
      go_wp2_with fail
      go_ret
      refine ⟨rfl, ?_⟩
      rfl

set_option maxHeartbeats 1000000 in
theorem mkTrace_large (rb : Nat) (L : Int) (w : World) (h0 : 0 ≤ L) (h1 : L < 9223372036854775807) (h2 : ¬ L + 1 < 65536) (M : Nat) (hpos : 0 < M)
    (hmk : ∀ w, (Instr.makeSlice 31 (.int .i64 0) (.int .i64 65536)).run Tryd.prog w = .ok (.slice (some ⟨w.heap.size, 0, none⟩) 0 M) (w.alloc (.cells (zeros M) 5))) :
    Calls Tryd.prog 25 #[.iface 43 (.pointer (some ⟨rb, 0, none⟩)), .int .i64 L] w fun e w' => e = .returned (.pointer (some ⟨w.heap.size + 1, 0, none⟩)) ∧ w' = (made rb L M w).drew := by
  have hw := wrap_add1 L h0 h1
  go_enter Tryd.func25, Tryd.ntmps25
  go_wp2_with (first | (go_at_call 31; refine (mkScanner _ _).mono ?_; rintro e w' ⟨rfl, rfl⟩))
  go_region_with (go_at_call 32; refine (buffer _ _ _ _ _ hpos ?_ ?_ ?_ (.int .i64 65536) (.slice none 0 0) ?_ ?_).mono ?_; go_simp; go_simp; go_simp; go_simp; go_simp; rintro e w' ⟨rfl, rfl⟩)
  all_goals
    go_wp2_with fail
    refine (split _ _ _ ?_ ?_ (.func (.func 39) #[] #[]) ?_).mono ?_
    · go_simp
    · go_simp
    · go_simp
    · rintro e w1 ⟨rfl, rfl⟩
      go_wp2_with fail
      go_ret
      refine ⟨rfl, ?_⟩
      rfl

/-- How great the first buffer is. -/
def first (L : Int) : Nat := if L + 1 < 65536 then (L + 1).toNat else (65536 : Int).toNat

theorem mkTrace (rb : Nat) (L : Int) (w : World) (h0 : 0 ≤ L) (h1 : L < 9223372036854775807) :
    Calls Tryd.prog 25 #[.iface 43 (.pointer (some ⟨rb, 0, none⟩)), .int .i64 L] w fun e w' => e = .returned (.pointer (some ⟨w.heap.size + 1, 0, none⟩)) ∧ w' = (made rb L (first L) w).drew := by
  unfold first
  by_cases h : L + 1 < 65536
  · rw [if_pos h]; exact mkTrace_small rb L w h0 h
  · rw [if_neg h]; exact mkTrace_large rb L w h0 h1 h _ (by omega) (make0 0 65536 (by omega) (by omega) (by omega))

set_option maxHeartbeats 1000000 in
theorem zznew (s : ByteArray) (L : Int) (w : World) (h0 : 0 ≤ L) (h1 : L < 9223372036854775807) :
    Calls Tryd.prog 8 #[.string s, .int .i64 L] w fun e w' => e = .returned (.pointer (some ⟨w.heap.size + 2, 0, none⟩)) ∧
      w' = (made w.heap.size L (first L) (w.alloc (.cells #[.string s, .int .i64 0, .int .i64 (-1)] 58))).drew := by
  go_enter Tryd.func8, Tryd.ntmps8
  go_wp2_with fail
  refine (mkReader _ _).mono ?_
  rintro e w1 ⟨rfl, rfl⟩
  go_wp2_with fail
  refine (mkTrace _ _ _ h0 h1).mono ?_
  rintro e w1 ⟨rfl, rfl⟩
  go_wp2_with fail
  go_ret
  exact ⟨rfl, rfl⟩

theorem made_size (rb : Nat) (L : Int) (m : Nat) (w : World) : (made rb L m w).drew.heap.size = w.heap.size + 3 := by
  unfold made; simp
theorem made_below (rb : Nat) (L : Int) (m : Nat) (w : World) (B : Nat) (hB : B ≤ w.heap.size) : Below B w (made rb L m w).drew :=
  ((((Below.refl _ _).alloc hB _).alloc (by simp; omega) _).alloc (by simp; omega) _).drew
theorem made_scn (rb : Nat) (L : Int) (m : Nat) (w : World) : Scn (made rb L m w).drew (w.heap.size + 1) (.pointer (some ⟨w.heap.size, 0, none⟩)) L 0 0 0 := by
  have key : ∀ o, (made rb L m w).drew.cell? ⟨w.heap.size + 1, o, none⟩ = #[Value.pointer (some ⟨w.heap.size, 0, none⟩), .int .i64 L, .int .i64 0, .int .i64 0, .int .i64 0][o]? := fun o => by
    unfold made
    rw [World.cell?_drew, World.cell?_alloc_lt _ _ _ (by simp)]
    have h := fun X => World.cell?_alloc_new (w.alloc X) #[Value.pointer (some ⟨w.heap.size, 0, none⟩), .int .i64 L, .int .i64 0, .int .i64 0, .int .i64 0] 48 o
    simp only [World.size_alloc] at h
    exact h _
  refine ⟨by rw [key]; rfl, by rw [key]; rfl, by rw [key]; rfl, by rw [key]; rfl, by rw [key]; rfl, fun o => ?_⟩
  show (made rb L m w).frozen? _ = false
  unfold made
  rw [frozen?_alloc_cells, frozen?_alloc_cells, frozen?_alloc_cells]
  simp [World.frozen?]

end Go.Proofs.Qxb6608719aDoor.Sc
