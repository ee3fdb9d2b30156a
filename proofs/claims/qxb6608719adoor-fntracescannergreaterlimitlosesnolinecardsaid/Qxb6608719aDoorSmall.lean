/-
  THE WALKS of (*bufio.Scanner).setErr, advance, Err, Bytes and the law's wrappers round them.
-/
import Derived.Test.Qxb6608719aDoorRead
import Derived.LaidEql
namespace Go.Proofs.Qxb6608719aDoor.Sc
open Go.RowKit

theorem setErr (sb : Nat) (et : TypeId) (pv : Value) (w : World) (h7 : w.cell? ⟨sb, 7, none⟩ = some .nilIface) (f7 : w.frozen? ⟨sb, 7, none⟩ = false) :
    Calls Tryd.prog 35 #[.pointer (some ⟨sb, 0, none⟩), .iface et pv] w fun e w' => e = .returned (.tuple #[]) ∧ ∃ n, w' = (w.drewN n).setCell ⟨sb, 7, none⟩ (.iface et pv) := by
  go_enter Tryd.func35, Tryd.ntmps35
  go_wp2
  go_quiet (fail)
  go_wp2
  go_end0
  exact ⟨rfl, _, rfl⟩

theorem advance (sb st e n : Nat) (w : World) (h5 : w.cell? ⟨sb, 5, none⟩ = some (.int .i64 st)) (h6 : w.cell? ⟨sb, 6, none⟩ = some (.int .i64 e)) (f5 : w.frozen? ⟨sb, 5, none⟩ = false) (hn : st + n ≤ e) (he : e ≤ 4194304) (z : Int) (hz : z = (n : Int)) :
    Calls Tryd.prog 36 #[.pointer (some ⟨sb, 0, none⟩), .int .i64 z] w fun r w' => r = .returned (.bool true) ∧ ∃ k, w' = (w.drewN k).setCell ⟨sb, 5, none⟩ (.int .i64 ((st + n : Nat) : Int)) := by
  subst hz
  have h1 : ¬ (n : Int) < 0 := by omega
  have h2 : ¬ (e : Int) - (st : Int) < (n : Int) := by omega
  go_enter Tryd.func36, Tryd.ntmps36
  go_wp2
  go_quiet (fail)
  go_wp2
  go_ret
  exact ⟨rfl, _, rfl⟩

theorem i76 : (Tryd.prog.info? 76).map (·.comparable) = some true := by kernel_rfl
theorem eqlEof (pa : Addr) (w : World) : (binOp .eql 28 (.iface 76 (.pointer (some pa))) (.iface 76 (.pointer (some pa)))).run Tryd.prog w = .ok (.bool true) w := by
  obtain ⟨i, hi, hc⟩ := Option.map_eq_some_iff.1 i76
  obtain ⟨j, hj⟩ := Option.isSome_iff_exists.1 (show (Tryd.prog.info? 96).isSome = true by kernel_rfl)
  exact run_eql_iface_ptr_same w pa Tryd.underlying28 Tryd.underlying76 hi hc hj

theorem errNil (sb : Nat) (pa : Addr) (w : World) (h7 : w.cell? ⟨sb, 7, none⟩ = some (.iface 76 (.pointer (some pa)))) (hE : w.cell? ⟨4, 0, none⟩ = some (.iface 76 (.pointer (some pa)))) :
    Calls Tryd.prog 28 #[.pointer (some ⟨sb, 0, none⟩)] w fun r w' => r = .returned .nilIface ∧ ∃ k, w' = w.drewN k := by
  have q := eqlEof pa
  go_enter Tryd.func28, Tryd.ntmps28
  go_wp2
  go_quiet (fail)
  go_wp2
  go_ret
  exact ⟨rfl, _, rfl⟩

theorem bytes (sb : Nat) (A : Option Addr) (n c : Nat) (w : World) (h3 : w.cell? ⟨sb, 3, none⟩ = some (.slice A n c)) :
    Calls Tryd.prog 29 #[.pointer (some ⟨sb, 0, none⟩)] w fun r w' => r = .returned (.slice A n c) ∧ w' = w := by
  go_enter Tryd.func29, Tryd.ntmps29
  go_wp2
  go_ret
  exact ⟨rfl, rfl⟩

end Go.Proofs.Qxb6608719aDoor.Sc
