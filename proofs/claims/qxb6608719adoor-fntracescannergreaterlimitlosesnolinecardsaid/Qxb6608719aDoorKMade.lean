/-
  TWO NEW SCANNERS; the last newline; what the second law's walk needs of the plain kind.
-/
import Derived.Test.Qxb6608719aDoorKTwo
import Derived.Test.Qxb6608719aDoorCount
namespace Go.Proofs.Qxb6608719aDoor.Sk
open Go.RowKit Go.Proofs.Qxb6608719aDoor.Sc

/-- the world behind a new scanner -/
def newW (s : ByteArray) (L : Int) (w : World) : World := (made w.heap.size L (first L) (w.alloc (.cells #[.string s, .int .i64 0, .int .i64 (-1)] 58))).drew

theorem newW_size (s : ByteArray) (L : Int) (w : World) : (newW s L w).heap.size = w.heap.size + 4 := by
  show (made w.heap.size L (first L) (w.alloc (.cells #[.string s, .int .i64 0, .int .i64 (-1)] 58))).drew.heap.size = _
  rw [made_size, World.size_alloc]

theorem newW_below (s : ByteArray) (L : Int) (w : World) : Go.RowKit.Below w.heap.size w (newW s L w) :=
  ((Go.RowKit.Below.refl _ _).alloc (Nat.le_refl _) _).trans (made_below _ _ _ _ _ (by simp))

theorem newW_st (s : ByteArray) (L : Int) (n : Nat) (pa : Addr) (w : World) (h0 : 0 ≤ L) (hB : n ≤ w.heap.size) (h4 : 4 < n) (hg : w.cell? ⟨4, 0, none⟩ = some (EV pa)) :
    St (ev (· < n) s L w.heap.size pa) (w.heap.size + 3) (first L) 0 0 0 0 .nilIface (newW s L w) :=
  made_st s L (· < n) pa w h0 (fun _ hk => Nat.lt_of_lt_of_le hk hB) h4 hg

theorem two_made (s : ByteArray) (L1 L2 : Int) (pa : Addr) (w : World) (h1 : 0 ≤ L1) (h2 : 0 ≤ L2) (h4 : 4 < w.heap.size) (hg : w.cell? ⟨4, 0, none⟩ = some (EV pa)) :
    Go.RowKit.Below w.heap.size w (newW s L2 (newW s L1 w)) ∧ St (ev (· < w.heap.size) s L1 w.heap.size pa) (w.heap.size + 3) (first L1) 0 0 0 0 .nilIface (newW s L2 (newW s L1 w)) ∧
      St (ev (· < w.heap.size) s L2 (w.heap.size + 4) pa) (w.heap.size + 7) (first L2) 0 0 0 0 .nilIface (newW s L2 (newW s L1 w)) := by
  have b1 := newW_below s L1 w
  have z1 := newW_size s L1 w
  have s1 := newW_st s L1 w.heap.size pa w h1 (Nat.le_refl _) h4 hg
  have b2 := newW_below s L2 (newW s L1 w)
  have s2 := newW_st s L2 w.heap.size pa (newW s L1 w) h2 b1.size h4 (by rw [b1.cell (p := ⟨4, 0, none⟩) h4]; exact hg)
  refine ⟨b1.trans (b2.mono b1.size), s1.keep (B' := fun _ => True) (ofBelow b2) trivial trivial trivial trivial trivial (by omega), ?_⟩
  rw [z1] at s2
  exact s2

/-- where the last line ends -/
def LastEnd (l : List UInt8) (q : Nat) : Prop := (q = 0 ∨ l[q - 1]? = some 10) ∧ ∀ j, q ≤ j → l[j]? ≠ some 10

theorem LastEnd.is {l : List UInt8} {q p : Nat} (h : LastEnd l q) (hp : p = 0 ∨ l[p - 1]? = some 10) (hno : Plain.NoNl (l.drop p)) : q = p := by
  rcases Nat.lt_trichotomy q p with hl | hl | hl
  · rcases hp with hp | hp
    · omega
    · exact absurd hp (h.2 (p - 1) (by omega))
  · exact hl
  · rcases h.1 with hq | hq
    · omega
    · refine absurd ?_ (hno (q - 1 - p))
      rw [List.getElem?_drop, show p + (q - 1 - p) = q - 1 by omega]
      exact hq

theorem last_cases : ∀ l : List UInt8, Plain.NoNl l ∨ ∃ q : Nat, l[q]? = some 10 ∧ ∀ j : Nat, q < j → l[j]? ≠ some 10
  | [] => .inl Plain.noNl_nil
  | c :: t => by
    rcases last_cases t with h | ⟨q, hq, hl⟩
    · by_cases hc : c = 10
      · refine .inr ⟨0, by simp [hc], fun j hj => ?_⟩
        cases j with
        | zero => omega
        | succ j => simpa using h j
      · refine .inl fun j => ?_
        cases j with
        | zero => simpa using hc
        | succ j => simpa using h j
    · refine .inr ⟨q + 1, by simpa using hq, fun j hj => ?_⟩
      cases j with
      | zero => omega
      | succ j => simpa using hl j (by omega)

theorem last18 (s : ByteArray) (w : World) (hs : s.size ≤ 1048577) :
    ∃ q : Nat, q ≤ s.size ∧ LastEnd s.data.toList q ∧ Calls Tryd.prog 18 #[.string s] w fun e w' => e = .returned (.int .i64 ((q : Int) - 1)) ∧ w' = w := by
  rcases last_cases s.data.toList with h | ⟨q, hq, hl⟩
  · exact ⟨0, Nat.zero_le _, ⟨.inl rfl, fun j _ => h j⟩, last_no s w hs h⟩
  · have hlt : q < s.size := (List.getElem?_eq_some_iff.1 hq).1
    refine ⟨q + 1, hlt, ⟨.inr hq, fun j hj => hl j hj⟩, ?_⟩
    refine (last_at s q w hs hq hl).mono ?_
    rintro e w' ⟨rfl, rfl⟩
    exact ⟨ret_i64 (by omega), rfl⟩

theorem cnt_end {s : ByteArray} {p : Nat} (hp : p ≤ s.size) (hno : Plain.NoNl (s.data.toList.drop p)) : cnt s.data.toList s.size = cnt s.data.toList p := by
  have := cnt_gap (l := s.data.toList) (p := p) (s.size - p) (fun j _ => hno j) (by show p + (s.size - p) ≤ s.size; omega)
  rwa [show p + (s.size - p) = s.size by omega] at this

theorem cnt_line {s : ByteArray} {p i : Nat} (hi : Plain.NlAt (s.data.toList.drop p) i) : cnt s.data.toList (p + i + 1) = cnt s.data.toList p + 1 := by
  have hl := hi.lt
  rw [List.length_drop] at hl
  have h1 := cnt_gap (l := s.data.toList) (p := p) i (fun j hj => hi.2 j hj) (by omega)
  have h2 := hi.1
  rw [List.getElem?_drop] at h2
  rw [cnt_nl h2, h1]

theorem end_line {s : ByteArray} {p i : Nat} (hi : Plain.NlAt (s.data.toList.drop p) i) : s.data.toList[p + i + 1 - 1]? = some 10 := by
  have h2 := hi.1
  rw [List.getElem?_drop] at h2
  exact h2

theorem conv (w : World) (g o n c : Nat) (l : List UInt8) (hl : l.length = n) (hr : RowAt w g o l) :
    (convert 31 9 (.slice (some ⟨g, o, none⟩) n c)).run Tryd.prog w = .ok (.string ⟨l.toArray⟩) w := by
  subst hl
  refine run_convert_bytes_back (P := Tryd.prog) w 31 9 5 ⟨g, o, none⟩ c l Tryd.underlying31 Tryd.underlying5 Tryd.underlying9 ?_
  intro j hj
  have e : (⟨g, o, none⟩ : Addr).add j = ⟨g, o + j, none⟩ := by unfold Addr.add; split <;> simp_all
  rw [e, hr j hj]
  simp [List.getD, hj]

end Go.Proofs.Qxb6608719aDoor.Sk
