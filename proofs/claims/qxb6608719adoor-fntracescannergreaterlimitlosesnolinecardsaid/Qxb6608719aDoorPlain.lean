/-
  THE PLAIN LAWS on newlines in a list of bytes: no Go in sight.
-/
import Derived.Lib.BytesEntry
namespace Go.Proofs.Qxb6608719aDoor.Plain

def NoNl (l : List UInt8) : Prop := ∀ j : Nat, l[j]? ≠ some 10
def NlAt (l : List UInt8) (i : Nat) : Prop := l[i]? = some 10 ∧ ∀ j : Nat, j < i → l[j]? ≠ some 10

theorem NlAt.lt {l : List UInt8} {i : Nat} (h : NlAt l i) : i < l.length := (List.getElem?_eq_some_iff.1 h.1).1

theorem noNl_nil : NoNl [] := fun j => by simp

theorem NoNl.index : ∀ {l : List UInt8}, NoNl l → Lib.indexByte l 10 = -1
  | [], _ => rfl
  | c :: t, h => by
    have h0 : c ≠ 10 := fun e => h 0 (by simp [e])
    have ht : NoNl t := fun j hj => h (j + 1) (by simpa using hj)
    have := NoNl.index ht
    simp [Lib.indexByte, h0, this]

theorem NlAt.index : ∀ {l : List UInt8} {i : Nat}, NlAt l i → Lib.indexByte l 10 = (i : Int)
  | [], i, h => by have := h.1; simp at this
  | c :: t, 0, h => by
    have : c = 10 := by simpa using h.1
    simp [Lib.indexByte, this]
  | c :: t, i + 1, h => by
    have h0 : c ≠ 10 := fun e => h.2 0 (by omega) (by simp [e])
    have ht : NlAt t i := ⟨by simpa using h.1, fun j hj hc => h.2 (j + 1) (by omega) (by simpa using hc)⟩
    have := NlAt.index ht
    have hne : ¬ ((i : Int) = -1) := by omega
    simp [Lib.indexByte, h0, this, hne]

theorem nl_cases : ∀ l : List UInt8, NoNl l ∨ ∃ i, NlAt l i
  | [] => .inl noNl_nil
  | c :: t => by
    by_cases h0 : c = 10
    · exact .inr ⟨0, by simp [h0], fun j hj => by omega⟩
    · rcases nl_cases t with h | ⟨i, h⟩
      · refine .inl fun j => ?_
        cases j with
        | zero => simpa using h0
        | succ j => simpa using h j
      · refine .inr ⟨i + 1, by simpa using h.1, fun j hj => ?_⟩
        cases j with
        | zero => simpa using h0
        | succ j => simpa using h.2 j (by omega)

theorem NlAt.uniq {l : List UInt8} {i j : Nat} (h : NlAt l i) (k : NlAt l j) : i = j := by
  rcases Nat.lt_trichotomy i j with hl | hl | hl
  · exact absurd h.1 (k.2 i hl)
  · exact hl
  · exact absurd k.1 (h.2 j hl)

/-- the numbers of a list of bytes -/
def nums (l : List UInt8) : List Int := l.map fun c => (c.toNat : Int)
theorem nums_length (l : List UInt8) : (nums l).length = l.length := by simp [nums]
theorem nums_getD (l : List UInt8) (i : Nat) (h : i < l.length) : (nums l).getD i 0 = ((l.getD i 0).toNat : Int) := by
  simp [nums, List.getD, h]
theorem nums_bytes (l : List UInt8) : Lib.bytesOf (nums l) = l := by
  unfold nums Lib.bytesOf
  rw [List.map_map]
  have : (fun n : Int => UInt8.ofNat n.toNat) ∘ (fun c : UInt8 => (c.toNat : Int)) = id := by
    funext c
    simp
  rw [this, List.map_id]

theorem joined {a b : List UInt8} {i : Nat} (ha : NoNl a) (hb : NlAt b i) : NlAt (a ++ b) (a.length + i) := by
  refine ⟨?_, fun j hj => ?_⟩
  · rw [List.getElem?_append_right (by omega), Nat.add_sub_cancel_left]; exact hb.1
  · rcases Nat.lt_or_ge j a.length with h | h
    · rw [List.getElem?_append_left h]; exact ha j
    · rw [List.getElem?_append_right h]; exact hb.2 _ (by omega)

theorem NoNl.drop {l : List UInt8} (h : NoNl l) (k : Nat) : NoNl (l.drop k) := fun j => by rw [List.getElem?_drop]; exact h _

theorem NoNl.take {l : List UInt8} (h : NoNl l) (k : Nat) : NoNl (l.take k) := fun j => by
  rw [List.getElem?_take]
  split
  · exact h j
  · simp

theorem NoNl.append {a b : List UInt8} (ha : NoNl a) (hb : NoNl b) : NoNl (a ++ b) := fun j => by
  rcases Nat.lt_or_ge j a.length with h | h
  · rw [List.getElem?_append_left h]; exact ha j
  · rw [List.getElem?_append_right h]; exact hb _

end Go.Proofs.Qxb6608719aDoor.Plain
