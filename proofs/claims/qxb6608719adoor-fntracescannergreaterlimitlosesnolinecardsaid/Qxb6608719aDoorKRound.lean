/-
  Scan's round out of its five statements; Scan.
-/
import Derived.Test.Qxb6608719aDoorKS1b
import Derived.Test.Qxb6608719aDoorKS1c
import Derived.Test.Qxb6608719aDoorKS1d
import Derived.Test.Qxb6608719aDoorKS1e
import Derived.Test.Qxb6608719aDoorKS1f
import Derived.Test.Qxb6608719aDoorKS2
import Derived.Test.Qxb6608719aDoorKS3b
import Derived.Test.Qxb6608719aDoorKS3c
import Derived.Test.Qxb6608719aDoorKS4b
import Derived.Test.Qxb6608719aDoorKS5
import Derived.Deep.LoopGhost
namespace Go.Proofs.Qxb6608719aDoor.Sk
open Go.RowKit Go.Proofs.Qxb6608719aDoor.Sc

/-- What a call of Scan comes to. -/
def Out (E : Env) (p : Nat) (w : World) (r : Ending) (w' : World) : Prop :=
  Below E.base w w' ∧
  ((∃ i bb m st e, Plain.NlAt (E.s.data.toList.drop p) i ∧ r = .returned (.bool true) ∧ St E bb m (p + i + 1) st e 0 .nilIface w' ∧
      ∃ a k, ((i : Int) ≤ E.L → w'.cell? ⟨E.sb, 3, none⟩ = some (.slice (some ⟨bb, a, none⟩) i k) ∧ RowAt w' bb a ((E.s.data.toList.drop p).take i) ∧ w'.cell? ⟨E.tb, 3, none⟩ = some (.int .i64 0)) ∧
        (E.L < (i : Int) → w'.cell? ⟨E.sb, 3, none⟩ = some (.slice (some ⟨bb, a, none⟩) 0 k) ∧ w'.cell? ⟨E.tb, 3, none⟩ = some (.int .i64 (i : Int)))) ∨
   (Plain.NoNl (E.s.data.toList.drop p) ∧ r = .returned (.bool false) ∧ w'.cell? ⟨E.tb, 0, none⟩ = some (.pointer (some ⟨E.sb, 0, none⟩)) ∧ w'.cell? ⟨E.tb, 4, none⟩ = some (.int .i64 ((E.s.size - p : Nat) : Int)) ∧
      w'.cell? ⟨E.sb, 7, none⟩ = some (EV E.pa) ∧ w'.cell? ⟨4, 0, none⟩ = some (EV E.pa)))

/-- What holds at the head of each round. -/
def Rel (E : Env) (p : Nat) (w : World) (g : Nat) (wr : World) : Prop :=
  ∃ bb m c st k P, Below E.base w wr ∧ c = p + P ∧ Plain.NoNl ((E.s.data.toList.drop p).take P) ∧ (P = 0 ∨ E.L < (P : Int)) ∧
    ((g = 2 * (E.s.size - (c + k)) + 1 ∧ St E bb m c st (st + k) P .nilIface wr) ∨
     (g = 0 ∧ c + k = E.s.size ∧ Plain.NoNl ((E.s.data.toList.drop c).take k) ∧ St E bb m c st (st + k) P (EV E.pa) wr))

/-- What holds where more is to be read. -/
structure Ready (E : Env) (p : Nat) (w : World) (q bb m c st k P : Nat) (wr : World) : Prop where
  bel : Below E.base w wr
  pos : c = p + P
  no : Plain.NoNl ((E.s.data.toList.drop p).take P)
  big : P = 0 ∨ E.L < (P : Int)
  rd : c + k = q
  st : St E bb m c st (st + k) P .nilIface wr
  win : Plain.NoNl ((E.s.data.toList.drop c).take k)
  lim : (k : Int) ≤ E.L

theorem Ready.drewN {E : Env} {p : Nat} {w : World} {q bb m c st k P : Nat} {wr : World} (h : Ready E p w q bb m c st k P wr) (n : Nat) : Ready E p w q bb m c st k P (wr.drewN n) :=
  ⟨belowN h.bel n, h.pos, h.no, h.big, h.rd, h.st.drewN n, h.win, h.lim⟩

theorem then_self {Q : Exit → Act → World → Prop} : ∀ e a w, Exit.then (fun a w => Q .normal a w) Q e a w → Q e a w := fun e a w h => by
  cases e <;> exact h

theorem seq_at (j : Nat) (Q : Exit → Act → World → Prop) (a : Act) (w : World) (c : Code)
    (e : rest j c = .seq (nth j c) (rest (j + 1) c)) (h : Code.wp Tryd.prog (nth j c) (Exit.then (fun a w => Code.wp Tryd.prog (rest (j + 1) c) Q a w) Q) a w) : Code.wp Tryd.prog (rest j c) Q a w := by
  rw [e]
  exact wp_seq h

theorem stage5 (E : Env) (hE : E.Ok) (p : Nat) (w0 : World) (Q : Exit → Act → World → Prop) (q : Nat)
    (hQ : ∀ a' w' g', Fr (.pointer (some ⟨E.sb, 0, none⟩)) a' → g' < 2 * (E.s.size - q) + 1 → Rel E p w0 g' w' → Q .normal a' w')
    (u : Nat → Value) (bb m c st k P : Nat) (w : World) (hR : Ready E p w0 q bb m c st k P w) (hlt : st + k < m) :
    Code.wp Tryd.prog (rest 4 (unblock ((Tryd.f27.body.bind firstLoop).getD .skip))) Q ⟨fr (.pointer (some ⟨E.sb, 0, none⟩)) u, []⟩ w := by
  have hle3 := hR.st.le3
  have hrd := hR.rd
  rw [Nat.add_sub_cancel_left] at hle3
  refine Code.wp_mono then_self ?_
  rcases Nat.lt_or_ge (c + k) E.s.size with hq | hq
  · refine s5_data E hE u bb m c st (st + k) P w hR.st hlt (by rw [Nat.add_sub_cancel_left]; exact hq) _ _ ?_
    intro a' w' n hf hb hn hS
    refine hQ a' w' (2 * (E.s.size - (c + (k + n))) + 1) hf (by omega) ⟨bb, m, c, st, k + n, P, hR.bel.trans hb, hR.pos, hR.no, hR.big, .inl ⟨rfl, ?_⟩⟩
    rw [← Nat.add_assoc]; exact hS
  · refine s5_eof E hE u bb m c st (st + k) P w hR.st hlt (by rw [Nat.add_sub_cancel_left]; omega) _ _ ?_
    intro a' w' hf hb hS
    exact hQ a' w' 0 hf (by omega) ⟨bb, m, c, st, k, P, hR.bel.trans hb, hR.pos, hR.no, hR.big, .inr ⟨rfl, by omega, hR.win, hS⟩⟩

theorem stage4 (E : Env) (hE : E.Ok) (p : Nat) (w0 : World) (Q : Exit → Act → World → Prop) (q : Nat)
    (hQ : ∀ a' w' g', Fr (.pointer (some ⟨E.sb, 0, none⟩)) a' → g' < 2 * (E.s.size - q) + 1 → Rel E p w0 g' w' → Q .normal a' w')
    (u : Nat → Value) (bb m c st k P : Nat) (w : World) (hR : Ready E p w0 q bb m c st k P w) (hfull : st + k = m → st = 0) :
    Code.wp Tryd.prog (rest 3 (unblock ((Tryd.f27.body.bind firstLoop).getD .skip))) Q ⟨fr (.pointer (some ⟨E.sb, 0, none⟩)) u, []⟩ w := by
  refine seq_at 3 Q _ _ _ (by rfl) ?_
  have hle2 := hR.st.le2
  by_cases hem : st + k = m
  · have h0 := hfull hem
    subst h0
    rw [Nat.zero_add] at hem
    subst hem
    have hS : St E bb k c 0 k P .nilIface w := by have := hR.st; rwa [Nat.zero_add] at this
    have hlim := hR.lim
    have done : ∀ a' w' g m', Fr (.pointer (some ⟨E.sb, 0, none⟩)) a' → Below E.base w w' → k < m' → St E g m' c 0 k P .nilIface w' → Code.wp Tryd.prog (rest (3 + 1) (unblock ((Tryd.f27.body.bind firstLoop).getD .skip))) Q a' w' := by
      intro a' w' g m' hf hb hm hS'
      obtain ⟨u', rfl⟩ := fr_of _ _ hf
      exact stage5 E hE p w0 Q q hQ u' g m' c 0 k P w' ⟨hR.bel.trans hb, hR.pos, hR.no, hR.big, hR.rd, by rw [Nat.zero_add]; exact hS', hR.win, hR.lim⟩ (by omega)
    by_cases hx : E.L + 1 < (k : Int) * 2
    · exact s4_cap E hE u bb k c P w hS (by omega) hx _ _ done
    · exact s4_two E hE u bb k c P w hS (by omega) hx _ _ done
  · refine s4_no E u bb m c st (st + k) P w hR.st hem _ _ ?_
    rintro a' w' hf ⟨n, rfl⟩
    obtain ⟨u', rfl⟩ := fr_of _ _ hf
    exact stage5 E hE p w0 Q q hQ u' bb m c st k P _ (hR.drewN n) (by omega)

theorem stage3 (E : Env) (hE : E.Ok) (p : Nat) (w0 : World) (Q : Exit → Act → World → Prop) (q : Nat)
    (hQ : ∀ a' w' g', Fr (.pointer (some ⟨E.sb, 0, none⟩)) a' → g' < 2 * (E.s.size - q) + 1 → Rel E p w0 g' w' → Q .normal a' w')
    (u : Nat → Value) (bb m c st k P : Nat) (w : World) (hR : Ready E p w0 q bb m c st k P w) :
    Code.wp Tryd.prog (rest 2 (unblock ((Tryd.f27.body.bind firstLoop).getD .skip))) Q ⟨fr (.pointer (some ⟨E.sb, 0, none⟩)) u, []⟩ w := by
  refine seq_at 2 Q _ _ _ (by rfl) ?_
  have hle2 := hR.st.le2
  have shifted : ∀ a' w', Fr (.pointer (some ⟨E.sb, 0, none⟩)) a' → Below E.base w w' → St E bb m c 0 k P .nilIface w' → Code.wp Tryd.prog (rest (2 + 1) (unblock ((Tryd.f27.body.bind firstLoop).getD .skip))) Q a' w' := by
    intro a' w' hf hb hS'
    obtain ⟨u', rfl⟩ := fr_of _ _ hf
    exact stage4 E hE p w0 Q q hQ u' bb m c 0 k P w' ⟨hR.bel.trans hb, hR.pos, hR.no, hR.big, hR.rd, by rw [Nat.zero_add]; exact hS', hR.win, hR.lim⟩ (fun _ => rfl)
  have stayed : (st + k = m → st = 0) → ∀ a' w', Fr (.pointer (some ⟨E.sb, 0, none⟩)) a' → (∃ n, w' = w.drewN n) → Code.wp Tryd.prog (rest (2 + 1) (unblock ((Tryd.f27.body.bind firstLoop).getD .skip))) Q a' w' := by
    rintro hfull a' w' hf ⟨n, rfl⟩
    obtain ⟨u', rfl⟩ := fr_of _ _ hf
    exact stage4 E hE p w0 Q q hQ u' bb m c st k P _ (hR.drewN n) hfull
  by_cases h0 : st = 0
  · subst h0
    exact s3_zero E u bb m c (0 + k) P w hR.st _ _ (stayed (fun _ => rfl))
  · by_cases hem : st + k = m
    · by_cases hk : k = 0
      · subst hk
        rw [Nat.add_zero] at hem
        subst hem
        exact s3_edge E hE u bb c st P w hR.st (by omega) _ _ shifted
      · exact s3_full E hE u bb m c st k P w hR.st (by omega) (by omega) hem _ _ shifted
    · by_cases hh : m / 2 < st
      · exact s3_half E hE u bb m c st k P w hR.st (by omega) hem hh _ _ shifted
      · exact s3_no E u bb m c st (st + k) P w hR.st (by omega) hem (by omega) _ _ (stayed (fun h => absurd h hem))

theorem stage2 (E : Env) (hE : E.Ok) (p : Nat) (w0 : World) (Q : Exit → Act → World → Prop) (q : Nat)
    (hQ : ∀ a' w' g', Fr (.pointer (some ⟨E.sb, 0, none⟩)) a' → g' < 2 * (E.s.size - q) + 1 → Rel E p w0 g' w' → Q .normal a' w')
    (u : Nat → Value) (bb m c st k P : Nat) (w : World) (hR : Ready E p w0 q bb m c st k P w) :
    Code.wp Tryd.prog (rest 1 (unblock ((Tryd.f27.body.bind firstLoop).getD .skip))) Q ⟨fr (.pointer (some ⟨E.sb, 0, none⟩)) u, []⟩ w := by
  refine seq_at 1 Q _ _ _ (by rfl) ?_
  refine s2_nil E u bb m c st (st + k) P w hR.st _ _ ?_
  intro a' hf
  obtain ⟨u', rfl⟩ := fr_of _ _ hf
  exact stage3 E hE p w0 Q q hQ u' bb m c st k P w hR

/-! ### plain facts on the window -/
theorem drop_split (l : List UInt8) (p P : Nat) : l.drop p = (l.drop p).take P ++ l.drop (p + P) := by
  rw [← List.drop_drop, List.take_append_drop]
theorem take_more (l : List UInt8) (p P k : Nat) : (l.drop p).take (P + k) = (l.drop p).take P ++ (l.drop (p + P)).take k := by
  rw [← List.drop_drop, List.take_add]
theorem NlAt_of_take {l : List UInt8} {k i : Nat} (h : Plain.NlAt (l.take k) i) : Plain.NlAt l i := by
  have hlt := h.lt
  rw [List.length_take] at hlt
  refine ⟨?_, fun j hj => ?_⟩
  · have := h.1; rwa [List.getElem?_take_of_lt (by omega)] at this
  · have := h.2 j hj; rwa [List.getElem?_take_of_lt (by omega)] at this

/-- One round of Scan. -/
theorem round (E : Env) (hE : E.Ok) (p : Nat) (w0 : World) (g : Nat) (u : Nat → Value) (w : World) (hR : Rel E p w0 g w) (Q : Exit → Act → World → Prop)
    (hK : ∀ a' w' g', Fr (.pointer (some ⟨E.sb, 0, none⟩)) a' → g' < g → Rel E p w0 g' w' → Q .normal a' w')
    (hret : ∀ a' w' b, Fr (.pointer (some ⟨E.sb, 0, none⟩)) a' → a'.tmps[2]? = some (.bool b) → Out E p w0 (.returned (.bool b)) w' → Q .ret a' w') :
    Code.wp Tryd.prog (rest 0 (unblock ((Tryd.f27.body.bind firstLoop).getD .skip))) Q ⟨fr (.pointer (some ⟨E.sb, 0, none⟩)) u, []⟩ w := by
  refine seq_at 0 Q _ _ _ (by rfl) ?_
  obtain ⟨bb, m, c, st, k, P, hb, rfl, hno, hP, h | h⟩ := hR
  · obtain ⟨rfl, hS⟩ := h
    have hle2 := hS.le2
    have hle3 := hS.le3
    have hlem := hS.lem
    rw [Nat.add_sub_cancel_left] at hle3
    by_cases hk : k = 0
    · subst hk
      refine s1_empty E u bb m (p + P) st P w hS _ _ ?_
      rintro a' w' hf ⟨n, rfl⟩
      obtain ⟨u', rfl⟩ := fr_of _ _ hf
      exact stage2 E hE p w0 Q (p + P + 0) hK u' bb m (p + P) st 0 P _ ⟨belowN hb n, rfl, hno, hP, rfl, hS.drewN n, by rw [List.take_zero]; exact Plain.noNl_nil, by have := hE.l0; omega⟩
    · rcases Plain.nl_cases ((E.s.data.toList.drop (p + P)).take k) with hw | ⟨i, hi⟩
      · by_cases hL : E.L < (k : Int)
        · refine s1_pass E hE u bb m (p + P) st k P w hS (by omega) (by omega) hL hw _ _ ?_
          intro a' w' hf hb' hS'
          obtain ⟨u', rfl⟩ := fr_of _ _ hf
          refine stage2 E hE p w0 Q (p + P + k) hK u' bb m (p + P + k) (st + k) 0 (P + k) _ ⟨hb.trans hb', by omega, ?_, .inr (by omega), rfl, hS', by rw [List.take_zero]; exact Plain.noNl_nil, by have := hE.l0; omega⟩
          rw [take_more]
          exact hno.append hw
        · refine s1_wait E hE u bb m (p + P) st k P w hS (by omega) (by omega) hw _ _ ?_
          intro a' w' hf hb' hS'
          obtain ⟨u', rfl⟩ := fr_of _ _ hf
          exact stage2 E hE p w0 Q (p + P + k) hK u' bb m (p + P) st k P _ ⟨hb.trans hb', rfl, hno, hP, rfl, hS', hw, by omega⟩
      · have hik := hi.lt
        rw [win_len E _ _ hle3] at hik
        by_cases hP0 : P = 0
        · subst hP0
          refine s1_line E hE u bb m (p + 0) st k i w hS hik hi _ _ ?_
          intro a' w' hf hr hb' hS' ht hrow ho
          refine hret a' w' true hf hr ⟨hb.trans hb', .inl ⟨i, bb, m, _, _, NlAt_of_take hi, rfl, hS', st, _, fun _ => ⟨ht, hrow, ho⟩, fun hlt => absurd hlt (by omega)⟩⟩
        · have hP1 : E.L < (P : Int) := by rcases hP with h | h <;> omega
          refine s1_over E hE u bb m (p + P) st k P i w hS hik (by omega) (by omega) hi _ _ ?_
          intro a' w' hf hr hb' hS' ht ho
          refine hret a' w' true hf hr ⟨hb.trans hb', .inl ⟨P + i, bb, m, st + (i + 1), st + k, ?_, rfl, ?_, st, _, fun hle => absurd hle (by omega), fun _ => ⟨ht, ?_⟩⟩⟩
          · have := Plain.joined hno (NlAt_of_take hi)
            rw [← drop_split, List.length_take, List.length_drop, Nat.min_eq_left (by show P ≤ E.s.size - p; omega)] at this
            exact this
          · rwa [show p + P + (i + 1) = p + (P + i) + 1 by omega] at hS'
          · rwa [show (P : Int) + (i : Int) = ((P + i : Nat) : Int) by omega] at ho
  · obtain ⟨rfl, hq, hw, hS⟩ := h
    have hle2 := hS.le2
    have done : ∀ a' w', Fr (.pointer (some ⟨E.sb, 0, none⟩)) a' → Below E.base w w' → St E bb m (p + P + k) (st + k) (st + k) P (EV E.pa) w' → w'.cell? ⟨E.tb, 4, none⟩ = some (.int .i64 ((P + k : Nat) : Int)) →
        Code.wp Tryd.prog (rest (0 + 1) (unblock ((Tryd.f27.body.bind firstLoop).getD .skip))) Q a' w' := by
      intro a' w' hf hb' hS' h4
      obtain ⟨u', rfl⟩ := fr_of _ _ hf
      refine seq_at 1 Q _ _ _ (by rfl) ?_
      refine s2_eof E u' bb m _ _ _ P w' hS' _ _ ?_
      intro a2 w2 hf2 hr hO h7
      obtain ⟨O', R, hs⟩ := hS'.scn
      refine hret a2 w2 false hf2 hr ⟨(hb.trans hb').trans (onlyB hO hE.b2), .inr ⟨?_, rfl, ?_, ?_, h7, ?_⟩⟩
      · rw [drop_split _ p P]
        refine hno.append ?_
        rwa [List.take_of_length_le (by rw [List.length_drop]; show E.s.size - (p + P) ≤ k; omega)] at hw
      · rw [hO.cell (p := ⟨E.tb, 0, none⟩) (Ne.symm hE.d3)]; exact hs.c0
      · rw [hO.cell (p := ⟨E.tb, 4, none⟩) (Ne.symm hE.d3), h4, show P + k = E.s.size - p by omega]
      · rw [hO.cell (p := ⟨4, 0, none⟩) hE.n2]; exact hS'.g
    by_cases hk : k = 0
    · subst hk
      by_cases hm : m = st
      · subst hm
        exact s1_tail1 E hE u bb (p + P) m P w hS (by omega) _ _ done
      · exact s1_tail0 E hE u bb m (p + P) st P w hS hm (by omega) _ _ done
    · exact s1_tail E hE u bb m (p + P) st k P w hS (by omega) (by omega) hw _ _ done

end Go.Proofs.Qxb6608719aDoor.Sk
