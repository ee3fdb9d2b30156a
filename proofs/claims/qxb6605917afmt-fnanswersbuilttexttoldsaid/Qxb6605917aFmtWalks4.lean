/-
  b1OpensWith (8), and what it says of the word ahead of the first space.
-/
import Derived.Test.Qxb6605917aFmtWalks3
namespace Go.Proofs.Qxb6605917aFmt.Wk
open Go.RowKit
open Go.Proofs.Qxb6605917aFmt
set_option linter.unusedVariables false

theorem head_list (t : ByteArray) (i : Nat) : (t.extract 0 i).data.toList = t.data.toList.take i := by rw [Lib.extract_data]; simp

theorem word_no {t : ByteArray} (h : Plain.NoSp t.data.toList) : word t = t := by unfold word; rw [if_pos h.index]
theorem word_at {t : ByteArray} {i : Nat} (h : Plain.SpAt t.data.toList i) : word t = t.extract 0 i := by
  unfold word
  rw [h.index, if_neg (by omega)]
  rfl

theorem word_noSp (t : ByteArray) : Plain.NoSp (word t).data.toList := by
  rcases Plain.sp_cases t.data.toList with h | ⟨i, h⟩
  · rw [word_no h]; exact h
  · rw [word_at h, head_list]; exact h.take

theorem word_iff (t d : ByteArray) (hd : Plain.NoSp d.data.toList) :
    word t = d ↔ (t = d ∨ (t.extract 0 d.size = d ∧ t.data.toList[d.size]? = some 32)) := by
  rcases Plain.sp_cases t.data.toList with h | ⟨i, h⟩
  · rw [word_no h]
    exact ⟨.inl, fun | .inl e => e | .inr ⟨_, e⟩ => absurd e (h _)⟩
  · rw [word_at h]
    have k := Plain.word_of_opens hd h
    rw [show d.data.toList.length = d.size from rfl] at k
    constructor
    · intro e
      obtain ⟨k1, k2⟩ := k.1 (by rw [← head_list, e])
      exact .inr ⟨Go.WideShapes.bytes_inj (by rw [head_list]; exact k1), k2⟩
    · rintro (e | ⟨k1, k2⟩)
      · exact absurd h (by rw [e]; exact fun h' => hd.not h')
      · refine Go.WideShapes.bytes_inj ?_
        rw [head_list]
        exact k.2 ⟨by rw [← head_list, k1], k2⟩

theorem neq_list {a b : ByteArray} (h : a ≠ b) : (a.toList == b.toList) = false := by
  rw [ByteArray.toList_eq, ByteArray.toList_eq]
  exact beq_eq_false_iff_ne.2 fun e => h (Go.WideShapes.bytes_inj e)

theorem opens_same (t d : ByteArray) (w : World) (h : t = d) :
    Calls Tryf.prog 8 #[.string t, .string d] w fun e w' => e = .returned (.bool true) ∧ w' = w := by
  subst h
  have hq : (t.toList == t.toList) = true := beq_self_eq_true _
  go_enter Tryf.func8, Tryf.ntmps8
  go_wp2
  go_ret
  exact ⟨rfl, rfl⟩

theorem opens_short (t d : ByteArray) (w : World) (ht : t.size ≤ 2097152) (hd : d.size ≤ 2097152) (h : t ≠ d) (hl : t.size ≤ d.size) :
    Calls Tryf.prog 8 #[.string t, .string d] w fun e w' => e = .returned (.bool false) ∧ Below w.heap.size w w' := by
  have hq := neq_list h
  have hi : ¬ (d.size : Int) < (t.size : Int) := by omega
  go_enter Tryf.func8, Tryf.ntmps8
  go_wp2
  go_ret
  exact ⟨rfl, Below.refl _ w⟩

theorem opens_off (t d : ByteArray) (w : World) (ht : t.size ≤ 2097152) (hd : d.size ≤ 2097152) (h : t ≠ d) (hl : d.size < t.size) (hx : t.extract 0 d.size ≠ d) :
    Calls Tryf.prog 8 #[.string t, .string d] w fun e w' => e = .returned (.bool false) ∧ Below w.heap.size w w' := by
  have hq := neq_list h
  have hq2 := neq_list hx
  have hi : (d.size : Int) < (t.size : Int) := by omega
  have h1 : (d.size : Int) ≤ (t.size : Int) := by omega
  have h2 : (0 : Int) ≤ (d.size : Int) := by omega
  go_enter Tryf.func8, Tryf.ntmps8
  go_wp2
  go_ret
  exact ⟨rfl, Below.refl _ w⟩

theorem opens_no (t d : ByteArray) (w : World) (ht : t.size ≤ 2097152) (hd : d.size ≤ 2097152) (h : t ≠ d) (hl : d.size < t.size) (hx : t.extract 0 d.size = d) (hc : (((t[d.size]'hl).toNat : Int) == 32) = false) :
    Calls Tryf.prog 8 #[.string t, .string d] w fun e w' => e = .returned (.bool false) ∧ Below w.heap.size w w' := by
  have hq := neq_list h
  have hq2 : ((t.extract 0 d.size).toList == d.toList) = true := by rw [hx]; exact beq_self_eq_true _
  have hi : (d.size : Int) < (t.size : Int) := by omega
  have h1 : (d.size : Int) ≤ (t.size : Int) := by omega
  have h2 : (0 : Int) ≤ (d.size : Int) := by omega
  clear hx
  go_enter Tryf.func8, Tryf.ntmps8
  go_wp2
  go_ret
  exact ⟨rfl, Below.refl _ w⟩

theorem opens_yes (t d : ByteArray) (w : World) (ht : t.size ≤ 2097152) (hd : d.size ≤ 2097152) (h : t ≠ d) (hl : d.size < t.size) (hx : t.extract 0 d.size = d) (hc : (((t[d.size]'hl).toNat : Int) == 32) = true) :
    Calls Tryf.prog 8 #[.string t, .string d] w fun e w' => e = .returned (.bool true) ∧ Below w.heap.size w w' := by
  have hq := neq_list h
  have hq2 : ((t.extract 0 d.size).toList == d.toList) = true := by rw [hx]; exact beq_self_eq_true _
  have hi : (d.size : Int) < (t.size : Int) := by omega
  have h1 : (d.size : Int) ≤ (t.size : Int) := by omega
  have h2 : (0 : Int) ≤ (d.size : Int) := by omega
  clear hx
  go_enter Tryf.func8, Tryf.ntmps8
  go_wp2
  go_ret
  exact ⟨rfl, Below.refl _ w⟩

/-- b1OpensWith at an id without a space: does the word ahead of the first space be the id? -/
theorem opens (t d : ByteArray) (w : World) (ht : t.size ≤ 2097152) (hd : d.size ≤ 2097152) (hs : Plain.NoSp d.data.toList) :
    Calls Tryf.prog 8 #[.string t, .string d] w fun e w' => e = .returned (.bool (decide (word t = d))) ∧ Below w.heap.size w w' := by
  have k := word_iff t d hs
  by_cases h : t = d
  · rw [decide_eq_true (k.2 (.inl h))]
    exact (opens_same t d w h).mono fun e w' ⟨h1, h2⟩ => ⟨h1, by rw [h2]; exact Below.refl _ w⟩
  rcases Nat.lt_or_ge d.size t.size with hl | hl
  · have hg : t.data.toList[d.size]? = some (t[d.size]'hl) := List.getElem?_eq_getElem (l := t.data.toList) hl
    by_cases hx : t.extract 0 d.size = d
    · by_cases hc : t[d.size]'hl = 32
      · rw [decide_eq_true (k.2 (.inr ⟨hx, by rw [hg, hc]⟩))]
        exact opens_yes t d w ht hd h hl hx (by rw [hc]; rfl)
      · rw [decide_eq_false (fun e => by
          rcases k.1 e with e | ⟨_, e⟩
          · exact h e
          · rw [hg] at e; exact hc (Option.some.inj e))]
        refine opens_no t d w ht hd h hl hx (beq_eq_false_iff_ne.2 fun e => hc ?_)
        have e' : (t[d.size]'hl).toNat = (32 : UInt8).toNat := by simpa using (by omega : (t[d.size]'hl).toNat = 32)
        exact UInt8.toNat_inj.1 e'
    · rw [decide_eq_false (fun e => by
        rcases k.1 e with e | ⟨e, _⟩
        · exact h e
        · exact hx e)]
      exact opens_off t d w ht hd h hl hx
  · rw [decide_eq_false (fun e => by
      rcases k.1 e with e | ⟨_, e⟩
      · exact h e
      · rw [List.getElem?_eq_none (by exact hl)] at e; cases e)]
    exact opens_short t d w ht hd h hl

end Go.Proofs.Qxb6605917aFmt.Wk
