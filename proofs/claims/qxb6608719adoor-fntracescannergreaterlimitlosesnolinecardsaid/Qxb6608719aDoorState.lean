/-
  THE SCANNER's STATE between two rounds of Scan, and the plain book-keeping on it.
-/
import Derived.Test.Qxb6608719aDoorSmall
namespace Go.Proofs.Qxb6608719aDoor.Sc
open Go.RowKit

def EV (pa : Addr) : Value := .iface 76 (.pointer (some pa))

/-- What does not turn while a scanner scans. -/
structure Env where
  s : ByteArray
  L : Int
  base : Nat
  rb : Nat
  sb : Nat
  tb : Nat
  pa : Addr

structure Env.Ok (E : Env) : Prop where
  size : E.s.size ≤ 1048576
  l0 : 0 ≤ E.L
  l1 : E.L < 9223372036854775807
  glob : 4 < E.base
  b1 : E.base ≤ E.rb
  b2 : E.base ≤ E.sb
  b3 : E.base ≤ E.tb
  d1 : E.rb ≠ E.sb
  d2 : E.rb ≠ E.tb
  d3 : E.sb ≠ E.tb

/-- bb: the buffer's block, m its length, [st, e) the window, which begins at the text's byte c; P bytes of the line passed over. -/
structure St (E : Env) (bb m c st e P : Nat) (err : Value) (w : World) : Prop where
  r0 : w.cell? ⟨E.rb, 0, none⟩ = some (.string E.s)
  r1 : w.cell? ⟨E.rb, 1, none⟩ = some (.int .i64 ((c + (e - st) : Nat) : Int))
  r2 : w.cell? ⟨E.rb, 2, none⟩ = some (.int .i64 (-1))
  s0 : w.cell? ⟨E.sb, 0, none⟩ = some (.iface 43 (.pointer (some ⟨E.rb, 0, none⟩)))
  s1 : w.cell? ⟨E.sb, 1, none⟩ = some (.func (.func 34) #[.pointer (some ⟨E.tb, 0, none⟩)] #[])
  s2 : w.cell? ⟨E.sb, 2, none⟩ = some (.int .i64 (E.L + 1))
  s3 : ∃ v, w.cell? ⟨E.sb, 3, none⟩ = some v
  s4 : w.cell? ⟨E.sb, 4, none⟩ = some (.slice (some ⟨bb, 0, none⟩) m m)
  s5 : w.cell? ⟨E.sb, 5, none⟩ = some (.int .i64 (st : Int))
  s6 : w.cell? ⟨E.sb, 6, none⟩ = some (.int .i64 (e : Int))
  s7 : w.cell? ⟨E.sb, 7, none⟩ = some err
  s8 : ∃ k : Int, w.cell? ⟨E.sb, 8, none⟩ = some (.int .i64 k)
  s9 : ∃ b : Bool, w.cell? ⟨E.sb, 9, none⟩ = some (.bool b)
  s10 : w.cell? ⟨E.sb, 10, none⟩ = some (.bool false)
  g : w.cell? ⟨4, 0, none⟩ = some (EV E.pa)
  fr : ∀ o, w.frozen? ⟨E.rb, o, none⟩ = false
  fs : ∀ o, w.frozen? ⟨E.sb, o, none⟩ = false
  ft : ∀ o, w.frozen? ⟨E.tb, o, none⟩ = false
  fb : ∀ o, w.frozen? ⟨bb, o, none⟩ = false
  scn : ∃ O R : Int, Scn w E.tb (.pointer (some ⟨E.sb, 0, none⟩)) E.L P O R
  row : RowAt w bb st ((E.s.data.toList.drop c).take (e - st))
  cap : ∀ j, j < m → (w.cell? ⟨bb, j, none⟩).isSome = true
  le1 : st ≤ e
  le2 : e ≤ m
  lem : (m : Int) ≤ E.L + 1
  pos : 0 < m
  mb : m ≤ 2097152
  le3 : c + (e - st) ≤ E.s.size
  d4 : bb ≠ E.rb
  d5 : bb ≠ E.sb
  d6 : bb ≠ E.tb
  b4 : E.base ≤ bb
  lt1 : E.rb < w.heap.size
  lt2 : E.sb < w.heap.size
  lt3 : E.tb < w.heap.size
  lt4 : bb < w.heap.size

/-- The end of a round: nothing below the base has turned. -/
theorem win_len (E : Env) (c k : Nat) (h : c + k ≤ E.s.size) : ((E.s.data.toList.drop c).take k).length = k := by
  rw [List.length_take, List.length_drop]
  show min k (E.s.size - c) = k
  omega

end Go.Proofs.Qxb6608719aDoor.Sc
