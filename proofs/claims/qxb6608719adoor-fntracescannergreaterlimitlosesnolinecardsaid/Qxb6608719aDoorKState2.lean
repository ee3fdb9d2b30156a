/-
  THE SCANNER's STATE: what each store does to it.
-/
import Derived.Test.Qxb6608719aDoorKState
namespace Go.Proofs.Qxb6608719aDoor.Sk
open Go.RowKit Go.Proofs.Qxb6608719aDoor.Sc

theorem St.set3 {E : Env} (hE : E.Ok) {bb m c st e P : Nat} {err : Value} {w : World} (h : St E bb m c st e P err w) (v : Value) : St E bb m c st e P err (w.setCell ⟨E.sb, 3, none⟩ v) := by
  have O : Only E.sb w (w.setCell ⟨E.sb, 3, none⟩ v) := (Only.refl _ _).setCell _ _
  exact
    { r0 := by rw [O.cell (p := ⟨E.rb, 0, none⟩) hE.d1]; exact h.r0
      r1 := by rw [O.cell (p := ⟨E.rb, 1, none⟩) hE.d1]; exact h.r1
      r2 := by rw [O.cell (p := ⟨E.rb, 2, none⟩) hE.d1]; exact h.r2
      s0 := by rw [World.cell?_setCell_other _ _ _ _ (by simp)]; exact h.s0
      s1 := by rw [World.cell?_setCell_other _ _ _ _ (by simp)]; exact h.s1
      s2 := by rw [World.cell?_setCell_other _ _ _ _ (by simp)]; exact h.s2
      s3 := ⟨_, World.cell?_setCell_same _ _ _ (h.s3.choose_spec)⟩
      s4 := by rw [World.cell?_setCell_other _ _ _ _ (by simp)]; exact h.s4
      s5 := by rw [World.cell?_setCell_other _ _ _ _ (by simp)]; exact h.s5
      s6 := by rw [World.cell?_setCell_other _ _ _ _ (by simp)]; exact h.s6
      s7 := by rw [World.cell?_setCell_other _ _ _ _ (by simp)]; exact h.s7
      s8 := by obtain ⟨x, hx⟩ := h.s8; exact ⟨x, by rw [World.cell?_setCell_other _ _ _ _ (by simp)]; exact hx⟩
      s9 := by obtain ⟨x, hx⟩ := h.s9; exact ⟨x, by rw [World.cell?_setCell_other _ _ _ _ (by simp)]; exact hx⟩
      s10 := by rw [World.cell?_setCell_other _ _ _ _ (by simp)]; exact h.s10
      g := by rw [O.cell (p := ⟨4, 0, none⟩) hE.n2]; exact h.g
      fr := fun o => (O.frozen _).trans (h.fr o)
      fs := fun o => (O.frozen _).trans (h.fs o)
      ft := fun o => (O.frozen _).trans (h.ft o)
      fb := fun o => (O.frozen _).trans (h.fb o)
      scn := by obtain ⟨O', R, hs⟩ := h.scn; exact ⟨O', R, hs.only O (Ne.symm hE.d3)⟩
      row := h.row.only O h.d5
      cap := fun j hj => by rw [O.cell (p := ⟨bb, j, none⟩) h.d5]; exact h.cap j hj
      le1 := h.le1
      le2 := h.le2
      lem := h.lem
      pos := h.pos
      mb := h.mb
      le3 := h.le3
      d4 := h.d4
      d5 := h.d5
      d6 := h.d6
      b4 := h.b4
      kp := fun k hk => by rw [O.size]; exact h.kp k hk
      lt1 := by rw [O.size]; exact h.lt1
      lt2 := by rw [O.size]; exact h.lt2
      lt3 := by rw [O.size]; exact h.lt3
      lt4 := by rw [O.size]; exact h.lt4 }

theorem St.set8 {E : Env} (hE : E.Ok) {bb m c st e P : Nat} {err : Value} {w : World} (h : St E bb m c st e P err w) (k : Int) : St E bb m c st e P err (w.setCell ⟨E.sb, 8, none⟩ (.int .i64 k)) := by
  have O : Only E.sb w (w.setCell ⟨E.sb, 8, none⟩ (.int .i64 k)) := (Only.refl _ _).setCell _ _
  exact
    { r0 := by rw [O.cell (p := ⟨E.rb, 0, none⟩) hE.d1]; exact h.r0
      r1 := by rw [O.cell (p := ⟨E.rb, 1, none⟩) hE.d1]; exact h.r1
      r2 := by rw [O.cell (p := ⟨E.rb, 2, none⟩) hE.d1]; exact h.r2
      s0 := by rw [World.cell?_setCell_other _ _ _ _ (by simp)]; exact h.s0
      s1 := by rw [World.cell?_setCell_other _ _ _ _ (by simp)]; exact h.s1
      s2 := by rw [World.cell?_setCell_other _ _ _ _ (by simp)]; exact h.s2
      s3 := by obtain ⟨x, hx⟩ := h.s3; exact ⟨x, by rw [World.cell?_setCell_other _ _ _ _ (by simp)]; exact hx⟩
      s4 := by rw [World.cell?_setCell_other _ _ _ _ (by simp)]; exact h.s4
      s5 := by rw [World.cell?_setCell_other _ _ _ _ (by simp)]; exact h.s5
      s6 := by rw [World.cell?_setCell_other _ _ _ _ (by simp)]; exact h.s6
      s7 := by rw [World.cell?_setCell_other _ _ _ _ (by simp)]; exact h.s7
      s8 := ⟨_, World.cell?_setCell_same _ _ _ (h.s8.choose_spec)⟩
      s9 := by obtain ⟨x, hx⟩ := h.s9; exact ⟨x, by rw [World.cell?_setCell_other _ _ _ _ (by simp)]; exact hx⟩
      s10 := by rw [World.cell?_setCell_other _ _ _ _ (by simp)]; exact h.s10
      g := by rw [O.cell (p := ⟨4, 0, none⟩) hE.n2]; exact h.g
      fr := fun o => (O.frozen _).trans (h.fr o)
      fs := fun o => (O.frozen _).trans (h.fs o)
      ft := fun o => (O.frozen _).trans (h.ft o)
      fb := fun o => (O.frozen _).trans (h.fb o)
      scn := by obtain ⟨O', R, hs⟩ := h.scn; exact ⟨O', R, hs.only O (Ne.symm hE.d3)⟩
      row := h.row.only O h.d5
      cap := fun j hj => by rw [O.cell (p := ⟨bb, j, none⟩) h.d5]; exact h.cap j hj
      le1 := h.le1
      le2 := h.le2
      lem := h.lem
      pos := h.pos
      mb := h.mb
      le3 := h.le3
      d4 := h.d4
      d5 := h.d5
      d6 := h.d6
      b4 := h.b4
      kp := fun k hk => by rw [O.size]; exact h.kp k hk
      lt1 := by rw [O.size]; exact h.lt1
      lt2 := by rw [O.size]; exact h.lt2
      lt3 := by rw [O.size]; exact h.lt3
      lt4 := by rw [O.size]; exact h.lt4 }

theorem St.set9 {E : Env} (hE : E.Ok) {bb m c st e P : Nat} {err : Value} {w : World} (h : St E bb m c st e P err w) (b : Bool) : St E bb m c st e P err (w.setCell ⟨E.sb, 9, none⟩ (.bool b)) := by
  have O : Only E.sb w (w.setCell ⟨E.sb, 9, none⟩ (.bool b)) := (Only.refl _ _).setCell _ _
  exact
    { r0 := by rw [O.cell (p := ⟨E.rb, 0, none⟩) hE.d1]; exact h.r0
      r1 := by rw [O.cell (p := ⟨E.rb, 1, none⟩) hE.d1]; exact h.r1
      r2 := by rw [O.cell (p := ⟨E.rb, 2, none⟩) hE.d1]; exact h.r2
      s0 := by rw [World.cell?_setCell_other _ _ _ _ (by simp)]; exact h.s0
      s1 := by rw [World.cell?_setCell_other _ _ _ _ (by simp)]; exact h.s1
      s2 := by rw [World.cell?_setCell_other _ _ _ _ (by simp)]; exact h.s2
      s3 := by obtain ⟨x, hx⟩ := h.s3; exact ⟨x, by rw [World.cell?_setCell_other _ _ _ _ (by simp)]; exact hx⟩
      s4 := by rw [World.cell?_setCell_other _ _ _ _ (by simp)]; exact h.s4
      s5 := by rw [World.cell?_setCell_other _ _ _ _ (by simp)]; exact h.s5
      s6 := by rw [World.cell?_setCell_other _ _ _ _ (by simp)]; exact h.s6
      s7 := by rw [World.cell?_setCell_other _ _ _ _ (by simp)]; exact h.s7
      s8 := by obtain ⟨x, hx⟩ := h.s8; exact ⟨x, by rw [World.cell?_setCell_other _ _ _ _ (by simp)]; exact hx⟩
      s9 := ⟨_, World.cell?_setCell_same _ _ _ (h.s9.choose_spec)⟩
      s10 := by rw [World.cell?_setCell_other _ _ _ _ (by simp)]; exact h.s10
      g := by rw [O.cell (p := ⟨4, 0, none⟩) hE.n2]; exact h.g
      fr := fun o => (O.frozen _).trans (h.fr o)
      fs := fun o => (O.frozen _).trans (h.fs o)
      ft := fun o => (O.frozen _).trans (h.ft o)
      fb := fun o => (O.frozen _).trans (h.fb o)
      scn := by obtain ⟨O', R, hs⟩ := h.scn; exact ⟨O', R, hs.only O (Ne.symm hE.d3)⟩
      row := h.row.only O h.d5
      cap := fun j hj => by rw [O.cell (p := ⟨bb, j, none⟩) h.d5]; exact h.cap j hj
      le1 := h.le1
      le2 := h.le2
      lem := h.lem
      pos := h.pos
      mb := h.mb
      le3 := h.le3
      d4 := h.d4
      d5 := h.d5
      d6 := h.d6
      b4 := h.b4
      kp := fun k hk => by rw [O.size]; exact h.kp k hk
      lt1 := by rw [O.size]; exact h.lt1
      lt2 := by rw [O.size]; exact h.lt2
      lt3 := by rw [O.size]; exact h.lt3
      lt4 := by rw [O.size]; exact h.lt4 }

theorem St.set7 {E : Env} (hE : E.Ok) {bb m c st e P : Nat} {err : Value} {w : World} (h : St E bb m c st e P err w) (err' : Value) : St E bb m c st e P err' (w.setCell ⟨E.sb, 7, none⟩ err') := by
  have O : Only E.sb w (w.setCell ⟨E.sb, 7, none⟩ err') := (Only.refl _ _).setCell _ _
  exact
    { r0 := by rw [O.cell (p := ⟨E.rb, 0, none⟩) hE.d1]; exact h.r0
      r1 := by rw [O.cell (p := ⟨E.rb, 1, none⟩) hE.d1]; exact h.r1
      r2 := by rw [O.cell (p := ⟨E.rb, 2, none⟩) hE.d1]; exact h.r2
      s0 := by rw [World.cell?_setCell_other _ _ _ _ (by simp)]; exact h.s0
      s1 := by rw [World.cell?_setCell_other _ _ _ _ (by simp)]; exact h.s1
      s2 := by rw [World.cell?_setCell_other _ _ _ _ (by simp)]; exact h.s2
      s3 := by obtain ⟨x, hx⟩ := h.s3; exact ⟨x, by rw [World.cell?_setCell_other _ _ _ _ (by simp)]; exact hx⟩
      s4 := by rw [World.cell?_setCell_other _ _ _ _ (by simp)]; exact h.s4
      s5 := by rw [World.cell?_setCell_other _ _ _ _ (by simp)]; exact h.s5
      s6 := by rw [World.cell?_setCell_other _ _ _ _ (by simp)]; exact h.s6
      s7 := World.cell?_setCell_same _ _ _ (h.s7)
      s8 := by obtain ⟨x, hx⟩ := h.s8; exact ⟨x, by rw [World.cell?_setCell_other _ _ _ _ (by simp)]; exact hx⟩
      s9 := by obtain ⟨x, hx⟩ := h.s9; exact ⟨x, by rw [World.cell?_setCell_other _ _ _ _ (by simp)]; exact hx⟩
      s10 := by rw [World.cell?_setCell_other _ _ _ _ (by simp)]; exact h.s10
      g := by rw [O.cell (p := ⟨4, 0, none⟩) hE.n2]; exact h.g
      fr := fun o => (O.frozen _).trans (h.fr o)
      fs := fun o => (O.frozen _).trans (h.fs o)
      ft := fun o => (O.frozen _).trans (h.ft o)
      fb := fun o => (O.frozen _).trans (h.fb o)
      scn := by obtain ⟨O', R, hs⟩ := h.scn; exact ⟨O', R, hs.only O (Ne.symm hE.d3)⟩
      row := h.row.only O h.d5
      cap := fun j hj => by rw [O.cell (p := ⟨bb, j, none⟩) h.d5]; exact h.cap j hj
      le1 := h.le1
      le2 := h.le2
      lem := h.lem
      pos := h.pos
      mb := h.mb
      le3 := h.le3
      d4 := h.d4
      d5 := h.d5
      d6 := h.d6
      b4 := h.b4
      kp := fun k hk => by rw [O.size]; exact h.kp k hk
      lt1 := by rw [O.size]; exact h.lt1
      lt2 := by rw [O.size]; exact h.lt2
      lt3 := by rw [O.size]; exact h.lt3
      lt4 := by rw [O.size]; exact h.lt4 }

theorem St.set5 {E : Env} (hE : E.Ok) {bb m c st e P : Nat} {err : Value} {w : World} (h : St E bb m c st e P err w) (n : Nat) (hn : st + n ≤ e) : St E bb m (c + n) (st + n) e P err (w.setCell ⟨E.sb, 5, none⟩ (.int .i64 ((st + n : Nat) : Int))) := by
  have O : Only E.sb w (w.setCell ⟨E.sb, 5, none⟩ (.int .i64 ((st + n : Nat) : Int))) := (Only.refl _ _).setCell _ _
  have h1 := h.le1
  have h3 := h.le3
  have e1 : c + n + (e - (st + n)) = c + (e - st) := by omega
  have e2 : ((E.s.data.toList.drop c).take (e - st)).drop n = (E.s.data.toList.drop (c + n)).take (e - (st + n)) := by
    rw [List.drop_take, List.drop_drop, show e - st - n = e - (st + n) by omega]
  exact
    { r0 := by rw [O.cell (p := ⟨E.rb, 0, none⟩) hE.d1]; exact h.r0
      r1 := by rw [O.cell (p := ⟨E.rb, 1, none⟩) hE.d1, e1]; exact h.r1
      r2 := by rw [O.cell (p := ⟨E.rb, 2, none⟩) hE.d1]; exact h.r2
      s0 := by rw [World.cell?_setCell_other _ _ _ _ (by simp)]; exact h.s0
      s1 := by rw [World.cell?_setCell_other _ _ _ _ (by simp)]; exact h.s1
      s2 := by rw [World.cell?_setCell_other _ _ _ _ (by simp)]; exact h.s2
      s3 := by obtain ⟨x, hx⟩ := h.s3; exact ⟨x, by rw [World.cell?_setCell_other _ _ _ _ (by simp)]; exact hx⟩
      s4 := by rw [World.cell?_setCell_other _ _ _ _ (by simp)]; exact h.s4
      s5 := World.cell?_setCell_same _ _ _ (h.s5)
      s6 := by rw [World.cell?_setCell_other _ _ _ _ (by simp)]; exact h.s6
      s7 := by rw [World.cell?_setCell_other _ _ _ _ (by simp)]; exact h.s7
      s8 := by obtain ⟨x, hx⟩ := h.s8; exact ⟨x, by rw [World.cell?_setCell_other _ _ _ _ (by simp)]; exact hx⟩
      s9 := by obtain ⟨x, hx⟩ := h.s9; exact ⟨x, by rw [World.cell?_setCell_other _ _ _ _ (by simp)]; exact hx⟩
      s10 := by rw [World.cell?_setCell_other _ _ _ _ (by simp)]; exact h.s10
      g := by rw [O.cell (p := ⟨4, 0, none⟩) hE.n2]; exact h.g
      fr := fun o => (O.frozen _).trans (h.fr o)
      fs := fun o => (O.frozen _).trans (h.fs o)
      ft := fun o => (O.frozen _).trans (h.ft o)
      fb := fun o => (O.frozen _).trans (h.fb o)
      scn := by obtain ⟨O', R, hs⟩ := h.scn; exact ⟨O', R, hs.only O (Ne.symm hE.d3)⟩
      row := by have := (h.row.only O h.d5).drop n; rw [e2] at this; exact this
      cap := fun j hj => by rw [O.cell (p := ⟨bb, j, none⟩) h.d5]; exact h.cap j hj
      le1 := hn
      le2 := h.le2
      lem := h.lem
      pos := h.pos
      mb := h.mb
      le3 := by rw [e1]; exact h3
      d4 := h.d4
      d5 := h.d5
      d6 := h.d6
      b4 := h.b4
      kp := fun k hk => by rw [O.size]; exact h.kp k hk
      lt1 := by rw [O.size]; exact h.lt1
      lt2 := by rw [O.size]; exact h.lt2
      lt3 := by rw [O.size]; exact h.lt3
      lt4 := by rw [O.size]; exact h.lt4 }

theorem St.drewN {E : Env} {bb m c st e P : Nat} {err : Value} {w : World} (h : St E bb m c st e P err w) (n : Nat) : St E bb m c st e P err (w.drewN n) :=
  { r0 := h.r0, r1 := h.r1, r2 := h.r2, s0 := h.s0, s1 := h.s1, s2 := h.s2, s3 := h.s3, s4 := h.s4, s5 := h.s5, s6 := h.s6, s7 := h.s7, s8 := h.s8, s9 := h.s9, s10 := h.s10, g := h.g,
    fr := h.fr, fs := h.fs, ft := h.ft, fb := h.fb, scn := by obtain ⟨O, R, hs⟩ := h.scn; exact ⟨O, R, hs.drewN n⟩, row := h.row, cap := h.cap,
    le1 := h.le1, le2 := h.le2, lem := h.lem, pos := h.pos, mb := h.mb, le3 := h.le3, d4 := h.d4, d5 := h.d5, d6 := h.d6, b4 := h.b4, kp := h.kp, lt1 := h.lt1, lt2 := h.lt2, lt3 := h.lt3, lt4 := h.lt4 }

theorem St.tb {E : Env} (hE : E.Ok) {bb m c st e P P' : Nat} {err : Value} {w w' : World} (h : St E bb m c st e P err w) (O : Only E.tb w w')
    (hs : ∃ O R : Int, Scn w' E.tb (.pointer (some ⟨E.sb, 0, none⟩)) E.L P' O R) : St E bb m c st e P' err w' := by
  have hx : ∀ o v, w.cell? ⟨E.sb, o, none⟩ = some v → w'.cell? ⟨E.sb, o, none⟩ = some v := fun o v hv => by rw [O.cell (p := ⟨E.sb, o, none⟩) hE.d3]; exact hv
  have hr : ∀ o v, w.cell? ⟨E.rb, o, none⟩ = some v → w'.cell? ⟨E.rb, o, none⟩ = some v := fun o v hv => by rw [O.cell (p := ⟨E.rb, o, none⟩) hE.d2]; exact hv
  exact
    { r0 := hr _ _ h.r0, r1 := hr _ _ h.r1, r2 := hr _ _ h.r2, s0 := hx _ _ h.s0, s1 := hx _ _ h.s1, s2 := hx _ _ h.s2, s3 := by obtain ⟨v, hv⟩ := h.s3; exact ⟨v, hx _ _ hv⟩, s4 := hx _ _ h.s4, s5 := hx _ _ h.s5, s6 := hx _ _ h.s6, s7 := hx _ _ h.s7,
      s8 := by obtain ⟨v, hv⟩ := h.s8; exact ⟨v, hx _ _ hv⟩
      s9 := by obtain ⟨v, hv⟩ := h.s9; exact ⟨v, hx _ _ hv⟩
      s10 := hx _ _ h.s10
      g := by rw [O.cell (p := ⟨4, 0, none⟩) hE.n3]; exact h.g
      fr := fun o => (O.frozen _).trans (h.fr o), fs := fun o => (O.frozen _).trans (h.fs o), ft := fun o => (O.frozen _).trans (h.ft o), fb := fun o => (O.frozen _).trans (h.fb o)
      scn := hs
      row := h.row.only O h.d6
      cap := fun j hj => by rw [O.cell (p := ⟨bb, j, none⟩) h.d6]; exact h.cap j hj
      le1 := h.le1, le2 := h.le2, lem := h.lem, pos := h.pos, mb := h.mb, le3 := h.le3, d4 := h.d4, d5 := h.d5, d6 := h.d6, b4 := h.b4, kp := fun k hk => by rw [O.size]; exact h.kp k hk
      lt1 := by rw [O.size]; exact h.lt1
      lt2 := by rw [O.size]; exact h.lt2
      lt3 := by rw [O.size]; exact h.lt3
      lt4 := by rw [O.size]; exact h.lt4 }

end Go.Proofs.Qxb6608719aDoor.Sk
