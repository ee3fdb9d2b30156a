/-
  THE PLAIN LAWS for skipSpace: no Go in sight. 'stop l p': where the run of blanks of l that starts at p ends.
-/
namespace Go.Proofs.Qxb6608647a.Plain

def blank (c : UInt8) : Bool := c == 32 || c == 9 || c == 10

def runLen : List UInt8 → Nat
  | [] => 0
  | c :: t => if blank c then runLen t + 1 else 0

def stop (l : List UInt8) (p : Nat) : Nat := p + runLen (l.drop p)

theorem runLen_le : ∀ l : List UInt8, runLen l ≤ l.length
  | [] => Nat.le_refl _
  | c :: t => by
    have := runLen_le t
    unfold runLen
    split <;> simp <;> omega

theorem stop_ge (l : List UInt8) (p : Nat) : p ≤ stop l p := Nat.le_add_right _ _

theorem stop_le (l : List UInt8) (p : Nat) (h : p ≤ l.length) : stop l p ≤ l.length := by
  have := runLen_le (l.drop p)
  rw [List.length_drop] at this
  unfold stop; omega

/-- e is the end of the run of blanks that starts at p. -/
structure IsStop (l : List UInt8) (p e : Nat) : Prop where
  ge : p ≤ e
  le : e ≤ l.length
  run : ∀ i, p ≤ i → i < e → ∃ c, l[i]? = some c ∧ blank c = true
  out : ∀ c, l[e]? = some c → blank c = false

theorem runLen_run : ∀ (l : List UInt8) (i : Nat), i < runLen l → ∃ c, l[i]? = some c ∧ blank c = true
  | [], i, h => by simp [runLen] at h
  | c :: t, i, h => by
    unfold runLen at h
    split at h
    · rename_i hb
      cases i with
      | zero => exact ⟨c, rfl, hb⟩
      | succ j => simpa using runLen_run t j (by omega)
    · omega

theorem runLen_out : ∀ (l : List UInt8) (c : UInt8), l[runLen l]? = some c → blank c = false
  | [], c, h => by simp at h
  | d :: t, c, h => by
    unfold runLen at h
    split at h
    · exact runLen_out t c (by simpa using h)
    · rename_i hb
      simp at h
      subst h
      simpa using hb

theorem stop_is (l : List UInt8) (p : Nat) (h : p ≤ l.length) : IsStop l p (stop l p) where
  ge := stop_ge l p
  le := stop_le l p h
  run := fun i h1 h2 => by
    obtain ⟨c, hc, hb⟩ := runLen_run (l.drop p) (i - p) (by unfold stop at h2; omega)
    rw [List.getElem?_drop] at hc
    exact ⟨c, by rw [← hc]; congr 1; omega, hb⟩
  out := fun c hc => runLen_out (l.drop p) c (by rw [List.getElem?_drop]; exact hc)

theorem IsStop.eq {l : List UInt8} {p e e' : Nat} (h : IsStop l p e) (h' : IsStop l p e') : e = e' := by
  rcases Nat.lt_trichotomy e e' with hl | hl | hl
  · obtain ⟨c, hc, hb⟩ := h'.run e h.ge hl
    have := h.out c hc
    rw [hb] at this; cases this
  · exact hl
  · obtain ⟨c, hc, hb⟩ := h.run e' h'.ge hl
    have := h'.out c hc
    rw [hb] at this; cases this

theorem IsStop.stop {l : List UInt8} {p e : Nat} (h : IsStop l p e) : stop l p = e :=
  (stop_is l p (Nat.le_trans h.ge h.le)).eq h

theorem stop_at_end (l : List UInt8) (p : Nat) (h : p = l.length) : stop l p = p := by
  have := stop_ge l p
  have := stop_le l p (by omega)
  omega

theorem stop_blank (l : List UInt8) (p : Nat) (c : UInt8) (hc : l[p]? = some c) (hb : blank c = true) : stop l p = stop l (p + 1) := by
  have hp : p < l.length := by
    rcases Nat.lt_or_ge p l.length with h | h
    · exact h
    · rw [List.getElem?_eq_none h] at hc; cases hc
  have e : l.drop p = c :: l.drop (p + 1) := by
    rw [List.drop_eq_getElem_cons hp]
    rw [List.getElem?_eq_getElem hp] at hc
    injection hc with hc; rw [hc]
  unfold Plain.stop
  rw [e]
  simp only [runLen, hb, if_true]
  omega

theorem stop_other (l : List UInt8) (p : Nat) (c : UInt8) (hc : l[p]? = some c) (hb : blank c = false) : stop l p = p := by
  have hp : p < l.length := by
    rcases Nat.lt_or_ge p l.length with h | h
    · exact h
    · rw [List.getElem?_eq_none h] at hc; cases hc
  exact IsStop.stop ⟨Nat.le_refl _, by omega, fun i h1 h2 => by omega, fun d hd => by rw [hc] at hd; injection hd with hd; rw [← hd]; exact hb⟩

/-! ### One byte put in -/
def put (l : List UInt8) (q : Nat) (c : UInt8) : List UInt8 := l.take q ++ [c] ++ l.drop q

theorem put_length (l : List UInt8) (q : Nat) (c : UInt8) (hq : q ≤ l.length) : (put l q c).length = l.length + 1 := by
  unfold put; simp; omega

theorem put_lt (l : List UInt8) (q : Nat) (c : UInt8) (hq : q ≤ l.length) (i : Nat) (h : i < q) : (put l q c)[i]? = l[i]? := by
  unfold put
  rw [List.getElem?_append_left (by simp; omega), List.getElem?_append_left (by simp; omega), List.getElem?_take_of_lt h]

theorem put_at (l : List UInt8) (q : Nat) (c : UInt8) (hq : q ≤ l.length) : (put l q c)[q]? = some c := by
  unfold put
  rw [List.getElem?_append_left (by simp; omega), List.getElem?_append_right (by simp; omega)]
  simp [Nat.min_eq_left hq]

theorem put_gt (l : List UInt8) (q : Nat) (c : UInt8) (hq : q ≤ l.length) (i : Nat) (h : q ≤ i) : (put l q c)[i + 1]? = l[i]? := by
  unfold put
  rw [List.getElem?_append_right (by simp; omega), List.getElem?_drop]
  congr 1
  simp [Nat.min_eq_left hq]; omega

theorem put_before (l : List UInt8) (p q : Nat) (c : UInt8) (hp : p ≤ l.length) (h : q < p) : stop (put l q c) (p + 1) = stop l p + 1 := by
  have k := stop_is l p hp
  have hq : q ≤ l.length := by omega
  refine IsStop.stop ⟨by have := k.ge; omega, by rw [put_length l q c hq]; have := k.le; omega, fun i h1 h2 => ?_, fun d hd => ?_⟩
  · obtain ⟨j, rfl⟩ : ∃ j, i = j + 1 := ⟨i - 1, by omega⟩
    obtain ⟨d, hd, hb⟩ := k.run j (by omega) (by omega)
    exact ⟨d, by rw [put_gt l q c hq j (by omega)]; exact hd, hb⟩
  · have := k.ge
    rw [put_gt l q c hq _ (by omega)] at hd
    exact k.out d hd

theorem put_blank (l : List UInt8) (p q : Nat) (c : UInt8) (hp : p ≤ l.length) (h1 : p ≤ q) (h2 : q ≤ stop l p) (hb : blank c = true) : stop (put l q c) p = stop l p + 1 := by
  have k := stop_is l p hp
  have hle := k.le
  have hq : q ≤ l.length := by omega
  refine IsStop.stop ⟨by omega, by rw [put_length l q c hq]; omega, fun i g1 g2 => ?_, fun d hd => ?_⟩
  · rcases Nat.lt_trichotomy i q with hi | hi | hi
    · obtain ⟨d, hd, hb⟩ := k.run i g1 (by omega)
      exact ⟨d, by rw [put_lt l q c hq i hi]; exact hd, hb⟩
    · subst hi; exact ⟨c, put_at l _ c hq, hb⟩
    · obtain ⟨j, rfl⟩ : ∃ j, i = j + 1 := ⟨i - 1, by omega⟩
      obtain ⟨d, hd, hb⟩ := k.run j (by omega) (by omega)
      exact ⟨d, by rw [put_gt l q c hq j (by omega)]; exact hd, hb⟩
  · rw [put_gt l q c hq _ (by omega)] at hd
    exact k.out d hd

theorem put_other (l : List UInt8) (p q : Nat) (c : UInt8) (hp : p ≤ l.length) (h1 : p ≤ q) (h2 : q ≤ stop l p) (hb : blank c = false) : stop (put l q c) p = q := by
  have k := stop_is l p hp
  have hle := k.le
  have hq : q ≤ l.length := by omega
  refine IsStop.stop ⟨h1, by rw [put_length l q c hq]; omega, fun i g1 g2 => ?_, fun d hd => ?_⟩
  · obtain ⟨d, hd, hb⟩ := k.run i g1 (by omega)
    exact ⟨d, by rw [put_lt l q c hq i g2]; exact hd, hb⟩
  · rw [put_at l q c hq] at hd
    injection hd with hd; rw [← hd]; exact hb

theorem put_behind (l : List UInt8) (p q : Nat) (c : UInt8) (hp : p ≤ l.length) (hq : q ≤ l.length) (h2 : stop l p < q) : stop (put l q c) p = stop l p := by
  have k := stop_is l p hp
  have hle := k.le
  refine IsStop.stop ⟨k.ge, by rw [put_length l q c hq]; omega, fun i g1 g2 => ?_, fun d hd => ?_⟩
  · obtain ⟨d, hd, hb⟩ := k.run i g1 (by omega)
    exact ⟨d, by rw [put_lt l q c hq i (by omega)]; exact hd, hb⟩
  · rw [put_lt l q c hq _ h2] at hd
    exact k.out d hd

/-! ### Two texts joined -/
theorem join_short (a b : List UInt8) (p : Nat) (hp : p ≤ a.length) (h : stop a p ≠ a.length) : stop (a ++ b) p = stop a p := by
  have k := stop_is a p hp
  have hle := k.le
  refine IsStop.stop ⟨k.ge, by rw [List.length_append]; omega, fun i g1 g2 => ?_, fun d hd => ?_⟩
  · obtain ⟨d, hd, hb⟩ := k.run i g1 g2
    exact ⟨d, by rw [List.getElem?_append_left (by omega)]; exact hd, hb⟩
  · rw [List.getElem?_append_left (by omega)] at hd
    exact k.out d hd

theorem join_long (a b : List UInt8) (p : Nat) (hp : p ≤ a.length) (h : stop a p = a.length) : stop (a ++ b) p = a.length + stop b 0 := by
  have k := stop_is a p hp
  have k' := stop_is b 0 (Nat.zero_le _)
  have hle := k.le
  have hle' := k'.le
  refine IsStop.stop ⟨by have := k.ge; omega, by rw [List.length_append]; omega, fun i g1 g2 => ?_, fun d hd => ?_⟩
  · rcases Nat.lt_or_ge i a.length with hi | hi
    · obtain ⟨d, hd, hb⟩ := k.run i g1 (by omega)
      exact ⟨d, by rw [List.getElem?_append_left hi]; exact hd, hb⟩
    · obtain ⟨d, hd, hb⟩ := k'.run (i - a.length) (Nat.zero_le _) (by omega)
      exact ⟨d, by rw [List.getElem?_append_right hi]; exact hd, hb⟩
  · rw [List.getElem?_append_right (by omega)] at hd
    exact k'.out d (by rw [← hd]; congr 1; omega)

end Go.Proofs.Qxb6608647a.Plain
