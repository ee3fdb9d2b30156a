/-
  THE PLAIN LAWS on the first space in a list of bytes: no Go in sight.
-/
import Derived.Lib.Bytealg
namespace Go.Proofs.Qxb6605917aFmt.Plain

def NoSp (l : List UInt8) : Prop := ∀ j : Nat, l[j]? ≠ some 32
def SpAt (l : List UInt8) (i : Nat) : Prop := l[i]? = some 32 ∧ ∀ j : Nat, j < i → l[j]? ≠ some 32

theorem SpAt.lt {l : List UInt8} {i : Nat} (h : SpAt l i) : i < l.length := (List.getElem?_eq_some_iff.1 h.1).1
theorem noSp_nil : NoSp [] := fun j => by simp

theorem NoSp.index : ∀ {l : List UInt8}, NoSp l → Lib.indexByte l 32 = -1
  | [], _ => rfl
  | c :: t, h => by
    have h0 : c ≠ 32 := fun e => h 0 (by simp [e])
    have ht : NoSp t := fun j hj => h (j + 1) (by simpa using hj)
    have := NoSp.index ht
    simp [Lib.indexByte, h0, this]

theorem SpAt.index : ∀ {l : List UInt8} {i : Nat}, SpAt l i → Lib.indexByte l 32 = (i : Int)
  | [], i, h => by have := h.1; simp at this
  | c :: t, 0, h => by
    have : c = 32 := by simpa using h.1
    simp [Lib.indexByte, this]
  | c :: t, i + 1, h => by
    have h0 : c ≠ 32 := fun e => h.2 0 (by omega) (by simp [e])
    have ht : SpAt t i := ⟨by simpa using h.1, fun j hj hc => h.2 (j + 1) (by omega) (by simpa using hc)⟩
    have := SpAt.index ht
    have hne : ¬ ((i : Int) = -1) := by omega
    simp [Lib.indexByte, h0, this, hne]

theorem sp_cases : ∀ l : List UInt8, NoSp l ∨ ∃ i, SpAt l i
  | [] => .inl noSp_nil
  | c :: t => by
    by_cases h0 : c = 32
    · exact .inr ⟨0, by simp [h0], fun j hj => by omega⟩
    · rcases sp_cases t with h | ⟨i, h⟩
      · refine .inl fun j => ?_
        cases j with
        | zero => simpa using h0
        | succ j => simpa using h j
      · refine .inr ⟨i + 1, by simpa using h.1, fun j hj => ?_⟩
        cases j with
        | zero => simpa using h0
        | succ j => simpa using h.2 j (by omega)

theorem SpAt.uniq {l : List UInt8} {i j : Nat} (h : SpAt l i) (k : SpAt l j) : i = j := by
  rcases Nat.lt_trichotomy i j with hl | hl | hl
  · exact absurd h.1 (k.2 i hl)
  · exact hl
  · exact absurd k.1 (h.2 j hl)

theorem SpAt.take {l : List UInt8} {i : Nat} (h : SpAt l i) : NoSp (l.take i) := fun j => by
  rw [List.getElem?_take]
  split
  · exact h.2 j (by assumption)
  · intro e; cases e

theorem NoSp.not {l : List UInt8} {i : Nat} (h : NoSp l) (k : SpAt l i) : False := h i k.1

theorem spAt_append {a b : List UInt8} (ha : NoSp a) : SpAt (a ++ 32 :: b) a.length := by
  refine ⟨by simp, fun j hj => ?_⟩
  rw [List.getElem?_append_left hj]
  exact ha j

theorem NoSp.cons {a : List UInt8} {c : UInt8} (hc : c ≠ 32) (ha : NoSp a) : NoSp (c :: a) := fun j => by
  cases j with
  | zero => simpa using hc
  | succ j => simpa using ha j

/-- the codes that name an article -/
def naming (c : Int) : Bool := c == 238 || c == 431 || c == 438 || c == 239 || c == 439

/-- the word ahead of the first space -/
theorem word_of_opens {t d : List UInt8} {i : Nat} (hd : NoSp d) (hi : SpAt t i) : t.take i = d ↔ (t.take d.length = d ∧ t[d.length]? = some 32) := by
  constructor
  · intro e
    have hl : d.length = i := by rw [← e, List.length_take]; have := hi.lt; omega
    rw [hl]
    exact ⟨e, hi.1⟩
  · rintro ⟨e, hs⟩
    have : SpAt t d.length := ⟨hs, fun j hj hc => hd j (by rw [← e, List.getElem?_take, if_pos hj]; exact hc)⟩
    rw [hi.uniq this]
    exact e

end Go.Proofs.Qxb6605917aFmt.Plain
