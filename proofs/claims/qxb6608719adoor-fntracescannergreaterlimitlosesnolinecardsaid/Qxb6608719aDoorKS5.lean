/-
  Scan's round, its last statement: the reader is asked for more.
-/
import Derived.Test.Qxb6608719aDoorKS1
namespace Go.Proofs.Qxb6608719aDoor.Sk
open Go.RowKit Go.Proofs.Qxb6608719aDoor.Sc

theorem methodRead (a : Addr) (w : World) : (method 204 43 (.pointer (some a)) "Read").run Tryd.prog w = .ok (64, .pointer (some a)) w := by kernel_rfl

theorem rdCell {s : ByteArray} {rb bb o q n : Nat} {w w' : World} (h : Rd s rb bb o q n w w') {b i : Nat} (h1 : b ≠ rb) (h2 : b ≠ bb) {v : Value} (hv : w.cell? ⟨b, i, none⟩ = some v) : w'.cell? ⟨b, i, none⟩ = some v := by
  rw [World.cell?_of_block (w := w) (a := ⟨b, i, none⟩) (h.block b h1 h2)]; exact hv

/-- The state behind a read. -/
theorem St.read {E : Env} (hE : E.Ok) {bb m c st e P n d : Nat} {w w1 : World} (h : St E bb m c st e P .nilIface w) (hrd : Rd E.s E.rb bb e (c + (e - st)) n (w.drewN d) w1) (h1 : n ≤ m - e) (h2 : n ≤ E.s.size - (c + (e - st))) (d' : Nat) :
    St E bb m c st (e + n) P .nilIface ((w1.drewN d').setCell ⟨E.sb, 6, none⟩ (.int .i64 ((e + n : Nat) : Int))) := by
  have hle1 := h.le1
  have hle2 := h.le2
  have hle3 := h.le3
  have O2 : Only E.sb w1 ((w1.drewN d').setCell ⟨E.sb, 6, none⟩ (.int .i64 ((e + n : Nat) : Int))) := ((Only.refl _ _).drewN d').setCell _ _
  have hx : ∀ o v, w.cell? ⟨E.sb, o, none⟩ = some v → w1.cell? ⟨E.sb, o, none⟩ = some v := fun o v hv => rdCell hrd (Ne.symm hE.d1) (Ne.symm h.d5) hv
  have hy : ∀ o v, o ≠ 6 → w.cell? ⟨E.sb, o, none⟩ = some v → ((w1.drewN d').setCell ⟨E.sb, 6, none⟩ (.int .i64 ((e + n : Nat) : Int))).cell? ⟨E.sb, o, none⟩ = some v := fun o v h6 hv => by
    rw [World.cell?_setCell_other _ _ _ _ (fun q => h6 (congrArg Addr.off q).symm)]; exact hx o v hv
  have hf := fun a => (O2.frozen a).trans (hrd.frozen a)
  have hz := O2.size.trans hrd.size
  have hrow1 : RowAt w1 bb st ((E.s.data.toList.drop c).take (e + n - st)) := by
    intro i hi
    have hlen : ((E.s.data.toList.drop c).take (e + n - st)).length = e + n - st := win_len E c _ (by omega)
    rw [hlen] at hi
    have hg : ((E.s.data.toList.drop c).take (e + n - st)).getD i 0 = E.s.data.toList.getD (c + i) 0 := by
      simp [List.getD, show i < e + n - st by omega]
    rw [hg]
    rcases Nat.lt_or_ge i (e - st) with hl | hl
    · rw [hrd.keep (st + i) (.inl (by omega))]
      have := h.row i (by rw [win_len E c _ hle3]; exact hl)
      have hg2 : ((E.s.data.toList.drop c).take (e - st)).getD i 0 = E.s.data.toList.getD (c + i) 0 := by
        simp [List.getD, hl]
      rw [hg2] at this
      exact this
    · have := hrd.row (i - (e - st)) (by omega)
      rw [show e + (i - (e - st)) = st + i by omega, show c + (e - st) + (i - (e - st)) = c + i by omega] at this
      exact this
  have hcap1 : ∀ j, j < m → (w1.cell? ⟨bb, j, none⟩).isSome = true := by
    intro j hj
    by_cases hjn : j < e ∨ e + n ≤ j
    · rw [hrd.keep j hjn]; exact h.cap j hj
    · have := hrd.row (j - e) (by omega)
      rw [show e + (j - e) = j by omega] at this
      rw [this]; rfl
  exact
    { r0 := by rw [O2.cell (p := ⟨E.rb, 0, none⟩) hE.d1]; exact hrd.r0
      r1 := by rw [O2.cell (p := ⟨E.rb, 1, none⟩) hE.d1]; have := hrd.r1; rwa [show c + (e - st) + n = c + (e + n - st) by omega] at this
      r2 := by rw [O2.cell (p := ⟨E.rb, 2, none⟩) hE.d1]; exact hrd.r2
      s0 := hy _ _ (by omega) h.s0, s1 := hy _ _ (by omega) h.s1, s2 := hy _ _ (by omega) h.s2
      s3 := by obtain ⟨v, hv⟩ := h.s3; exact ⟨v, hy _ _ (by omega) hv⟩
      s4 := hy _ _ (by omega) h.s4, s5 := hy _ _ (by omega) h.s5
      s6 := World.cell?_setCell_same _ _ _ (hx _ _ h.s6)
      s7 := hy _ _ (by omega) h.s7
      s8 := by obtain ⟨v, hv⟩ := h.s8; exact ⟨v, hy _ _ (by omega) hv⟩
      s9 := by obtain ⟨v, hv⟩ := h.s9; exact ⟨v, hy _ _ (by omega) hv⟩
      s10 := hy _ _ (by omega) h.s10
      g := by
        rw [O2.cell (p := ⟨4, 0, none⟩) hE.n2]
        exact rdCell hrd hE.n1 (h.n4 hE) h.g
      fr := fun o => (hf _).trans (h.fr o), fs := fun o => (hf _).trans (h.fs o), ft := fun o => (hf _).trans (h.ft o), fb := fun o => (hf _).trans (h.fb o)
      scn := by
        obtain ⟨O', R, hs⟩ := h.scn
        refine ⟨O', R, Scn.only ?_ O2 (Ne.symm hE.d3)⟩
        exact ⟨rdCell hrd (Ne.symm hE.d2) (Ne.symm h.d6) hs.c0, rdCell hrd (Ne.symm hE.d2) (Ne.symm h.d6) hs.c1, rdCell hrd (Ne.symm hE.d2) (Ne.symm h.d6) hs.c2, rdCell hrd (Ne.symm hE.d2) (Ne.symm h.d6) hs.c3, rdCell hrd (Ne.symm hE.d2) (Ne.symm h.d6) hs.c4, fun o => (hrd.frozen _).trans (hs.fz o)⟩
      row := hrow1.only O2 h.d5
      cap := fun j hj => by rw [O2.cell (p := ⟨bb, j, none⟩) h.d5]; exact hcap1 j hj
      le1 := by omega
      le2 := by omega
      lem := h.lem, pos := h.pos, mb := h.mb
      le3 := by omega
      d4 := h.d4, d5 := h.d5, d6 := h.d6, b4 := h.b4, kp := fun k hk => by rw [hz]; exact h.kp k hk
      lt1 := by rw [hz]; exact h.lt1
      lt2 := by rw [hz]; exact h.lt2
      lt3 := by rw [hz]; exact h.lt3
      lt4 := by rw [hz]; exact h.lt4 }

theorem rdB {s : ByteArray} {rb bb o q n : Nat} {B : Nat → Prop} {w w' : World} (h : Rd s rb bb o q n w w') (h1 : ¬ B rb) (h2 : ¬ B bb) : Below B w w' :=
  ⟨h.os, h.tape, h.output, by rw [h.size]; exact Nat.le_refl _, fun k hk _ => h.block k (fun e => h1 (e ▸ hk)) (fun e => h2 (e ▸ hk))⟩

set_option maxRecDepth 100000 in
set_option maxHeartbeats 4000000 in
theorem s5_data (E : Env) (hE : E.Ok) (u : Nat → Value) (bb m c st e P : Nat) (w : World) (hS : St E bb m c st e P .nilIface w) (hem : e < m) (hq : c + (e - st) < E.s.size) (K : Act → World → Prop) (Q : Exit → Act → World → Prop)
    (hK : ∀ a' w' n, Fr (.pointer (some ⟨E.sb, 0, none⟩)) a' → Below E.base w w' → 0 < n → St E bb m c st (e + n) P .nilIface w' → K a' w') :
    Code.wp Tryd.prog (rest 4 (unblock ((Tryd.f27.body.bind firstLoop).getD .skip))) (Exit.then K Q) ⟨fr (.pointer (some ⟨E.sb, 0, none⟩)) u, []⟩ w := by
  have h0 := hS.s0
  have h4 := hS.s4
  have h6 := hS.s6
  have h7 := hS.s7
  obtain ⟨v8, h8⟩ := hS.s8
  have f6 := hS.fs 6
  have f8 := hS.fs 8
  have hmb := hS.mb
  have hsz := hE.size
  have hr0 := hS.r0
  have hr1 := hS.r1
  have hr2 := hS.r2
  have fr1 := hS.fr 1
  have fr2 := hS.fr 2
  have fb := hS.fb
  have hd1 := hE.d1
  have hd4 := hS.d4
  have hd5 := hS.d5
  have hcap : Hid (∀ j, j < m - e → (w.cell? ⟨bb, e + j, none⟩).isSome = true) := fun j hj => hS.cap _ (by omega)
  have hb4 := hS.b4
  obtain ⟨n, hn, hn0, hn1, hn2⟩ : ∃ n : Nat, Hid (n = Nat.min (E.s.size - (c + (e - st))) (m - e)) ∧ 0 < n ∧ n ≤ m - e ∧ n ≤ E.s.size - (c + (e - st)) :=
    ⟨_, rfl, Nat.lt_min.2 ⟨by omega, by omega⟩, Nat.min_le_right _ _, Nat.min_le_left _ _⟩
  have HR := hid (And.intro hr0 (And.intro hr1 (And.intro hr2 (And.intro fr1 (And.intro fr2 fb)))))
  have HS := hid hS
  have HK := hid hK
  have hmt := methodRead
  clear hS hK hr0 hr1 hr2 fr1 fr2 fb
  have g1 : (0 : Int) ≤ (e : Int) := by omega
  have g2 : (e : Int) ≤ (m : Int) := by omega
  have hne : ¬ m = e := by omega
  unfold fr
  conv => arg 2; whnf
  go_wp2
  refine wp_loop_rounds 1 ?_
  rw [rounds_succ]
  go_wp2
  go_region_held3 (fun w' => w'.cell? ⟨E.sb, 0, none⟩ = some (.iface 43 (.pointer (some ⟨E.rb, 0, none⟩))) ∧ w'.cell? ⟨E.sb, 4, none⟩ = some (.slice (some ⟨bb, 0, none⟩) m m) ∧ w'.cell? ⟨E.sb, 6, none⟩ = some (.int .i64 (e : Int)))
    (first | exact ⟨h0, h4, h6⟩ | exact ⟨rdCell hrd (Ne.symm hd1) (Ne.symm hd5) h0, rdCell hrd (Ne.symm hd1) (Ne.symm hd5) h4, rdCell hrd (Ne.symm hd1) (Ne.symm hd5) h6⟩)
    (first | (go_at_call 64; refine (read_data E.rb bb e (m - e) (m - e) E.s (c + (e - st)) _ (Ne.symm hd4) (by omega) (by exact HR.out.1) (by exact HR.out.2.1) (by exact HR.out.2.2.1) (by exact HR.out.2.2.2.1) (by exact HR.out.2.2.2.2.1) (by exact HR.out.2.2.2.2.2) (by omega) (by exact hcap.out)).mono ?_; rw [← hn.out]; rintro r w1 ⟨rfl, hrd⟩))
  obtain ⟨k0, k4, k6⟩ := And.intro (rdCell hrd (Ne.symm hd1) (Ne.symm hd5) h0) (And.intro (rdCell hrd (Ne.symm hd1) (Ne.symm hd5) h4) (rdCell hrd (Ne.symm hd1) (Ne.symm hd5) h6))
  have k8 := rdCell hrd (Ne.symm hd1) (Ne.symm hd5) h8
  have kf6 := (hrd.frozen ⟨E.sb, 6, none⟩).trans f6
  have kf8 := (hrd.frozen ⟨E.sb, 8, none⟩).trans f8
  have HRD := hid hrd
  have p1 : decide ((n : Int) < 0) = false := decide_eq_false (by omega)
  have p2 : decide ((m : Int) - (e : Int) < (n : Int)) = false := decide_eq_false (by omega)
  have p3 : (0 : Int) < (n : Int) := by omega
  clear hrd h0 h4 h6 h7 h8 f6 f8 hmt
  go_wp2
  go_quiet (fail)
  go_wp2
  exact HK.out _ _ n ⟨rfl, rfl, rfl⟩ (below_set (below_set (belowN ((belowN (Below.refl _ _) 1).trans (rdB HRD.out hE.b1 hb4)) nq) E.sb 6 hE.b2 _) E.sb 8 hE.b2 _) hn0 ((HS.out.read hE (d := 1) HRD.out hn1 hn2 nq).set8 hE 0)


theorem St.set6 {E : Env} (hE : E.Ok) {bb m c st e P : Nat} {err : Value} {w : World} (h : St E bb m c st e P err w)  : St E bb m c st e P err (w.setCell ⟨E.sb, 6, none⟩ (.int .i64 (e : Int))) := by
  have O : Only E.sb w (w.setCell ⟨E.sb, 6, none⟩ (.int .i64 (e : Int))) := (Only.refl _ _).setCell _ _
  exact
    { r0 := by rw [O.cell (p := ⟨E.rb, 0, none⟩) hE.d1]; exact h.r0
      r1 := by rw [O.cell (p := ⟨E.rb, 1, none⟩) hE.d1]; exact h.r1
      r2 := by rw [O.cell (p := ⟨E.rb, 2, none⟩) hE.d1]; exact h.r2
      s0 := by rw [World.cell?_setCell_other _ _ _ _ (by simp)]; exact h.s0
      s1 := by rw [World.cell?_setCell_other _ _ _ _ (by simp)]; exact h.s1
      s2 := by rw [World.cell?_setCell_other _ _ _ _ (by simp)]; exact h.s2
      s3 := by obtain ⟨x, hx⟩ := h.s3; exact ⟨x, by rw [World.cell?_setCell_other _ _ _ _ (by simp)]; exact hx⟩
      s4 := by rw [World.cell?_setCell_other _ _ _ _ (by simp)]; exact h.s4
      s5 := by rw [World.cell?_setCell_other _ _ _ _ (by simp)]; exact h.s5
      s6 := World.cell?_setCell_same _ _ _ (h.s6)
      s7 := by rw [World.cell?_setCell_other _ _ _ _ (by simp)]; exact h.s7
      s8 := by obtain ⟨x, hx⟩ := h.s8; exact ⟨x, by rw [World.cell?_setCell_other _ _ _ _ (by simp)]; exact hx⟩
      s9 := by obtain ⟨x, hx⟩ := h.s9; exact ⟨x, by rw [World.cell?_setCell_other _ _ _ _ (by simp)]; exact hx⟩
      s10 := by rw [World.cell?_setCell_other _ _ _ _ (by simp)]; exact h.s10
      g := by rw [O.cell (p := ⟨4, 0, none⟩) hE.n2]; exact h.g
      fr := fun o => (O.frozen _).trans (h.fr o)
      fs := fun o => (O.frozen _).trans (h.fs o)
      ft := fun o => (O.frozen _).trans (h.ft o)
      fb := fun o => (O.frozen _).trans (h.fb o)
      scn := by obtain ⟨O', R, hs⟩ := h.scn; exact ⟨O', R, hs.only O (Ne.symm hE.d3)⟩
      row := h.row.only O h.d5
      cap := fun j hj => by rw [O.cell (p := ⟨bb, j, none⟩) h.d5]; exact h.cap j hj
      le1 := h.le1
      le2 := h.le2
      lem := h.lem
      pos := h.pos
      mb := h.mb
      le3 := h.le3
      d4 := h.d4
      d5 := h.d5
      d6 := h.d6
      b4 := h.b4
      kp := fun k hk => by rw [O.size]; exact h.kp k hk
      lt1 := by rw [O.size]; exact h.lt1
      lt2 := by rw [O.size]; exact h.lt2
      lt3 := by rw [O.size]; exact h.lt3
      lt4 := by rw [O.size]; exact h.lt4 }

set_option maxRecDepth 100000 in
set_option maxHeartbeats 4000000 in
theorem s5_eof (E : Env) (hE : E.Ok) (u : Nat → Value) (bb m c st e P : Nat) (w : World) (hS : St E bb m c st e P .nilIface w) (hem : e < m) (hq : c + (e - st) = E.s.size) (K : Act → World → Prop) (Q : Exit → Act → World → Prop)
    (hK : ∀ a' w', Fr (.pointer (some ⟨E.sb, 0, none⟩)) a' → Below E.base w w' → St E bb m c st e P (EV E.pa) w' → K a' w') :
    Code.wp Tryd.prog (rest 4 (unblock ((Tryd.f27.body.bind firstLoop).getD .skip))) (Exit.then K Q) ⟨fr (.pointer (some ⟨E.sb, 0, none⟩)) u, []⟩ w := by
  have h0 := hS.s0
  have h4 := hS.s4
  have h6 := hS.s6
  have h7 := hS.s7
  have f6 := hS.fs 6
  have f7 := hS.fs 7
  have hmb := hS.mb
  have HG : Hid (w.cell? ⟨4, 0, none⟩ = some (.iface 76 (.pointer (some E.pa)))) := hS.g
  have HR := hid (And.intro hS.r0 hS.r1)
  have hqi : Hid ((E.s.size : Int) ≤ ((c + (e - st) : Nat) : Int)) := hid (by rw [hq]; exact Int.le_refl _)
  have HS := hid hS
  have HK := hid hK
  have hmt := methodRead
  clear hS hK hq
  have g1 : (0 : Int) ≤ (e : Int) := by omega
  have g2 : (e : Int) ≤ (m : Int) := by omega
  have hne : ¬ m = e := by omega
  have p2 : decide ((m : Int) - (e : Int) < 0) = false := decide_eq_false (by omega)
  unfold fr
  conv => arg 2; whnf
  go_wp2
  refine wp_loop_rounds 1 ?_
  rw [rounds_succ]
  go_wp2
  go_region_held3 (fun w' => w'.cell? ⟨E.sb, 0, none⟩ = some (.iface 43 (.pointer (some ⟨E.rb, 0, none⟩))) ∧ w'.cell? ⟨E.sb, 4, none⟩ = some (.slice (some ⟨bb, 0, none⟩) m m) ∧ w'.cell? ⟨E.sb, 6, none⟩ = some (.int .i64 (e : Int)))
    (first | exact ⟨h0, h4, h6⟩)
    (first | (go_at_call 64; refine (read_eof E.rb _ _ _ E.s (c + (e - st)) 76 (.pointer (some E.pa)) _ (by exact HR.out.1) (by exact HR.out.2) hqi.out (by exact HG.out)).mono ?_; rintro r w1 ⟨rfl, nr, rfl⟩))
  go_wp2
  go_quiet (fail)
  go_wp2_with (go_at_call 35; refine (setErr E.sb 76 (.pointer (some E.pa)) _ ?_ ?_).mono ?_; go_simp; go_simp; rintro r w2 ⟨rfl, ns, rfl⟩)
  exact HK.out _ _ ⟨rfl, rfl, rfl⟩ (below_set (belowN (below_set (belowN (Below.refl _ _) _) E.sb 6 hE.b2 _) ns) E.sb 7 hE.b2 _) ((((HS.out.drewN _).set6 hE).drewN ns).set7 hE (EV E.pa))


end Go.Proofs.Qxb6608719aDoor.Sk
