/-
  TWO SCANNERS SIDE BY SIDE: what the one's Scan leaves of the other.
-/
import Derived.Test.Qxb6608719aDoorKScan
namespace Go.Proofs.Qxb6608719aDoor.Sk
open Go.RowKit Go.Proofs.Qxb6608719aDoor.Sc

/-- a scanner whose three blocks begin at r -/
def ev (B : Nat → Prop) (s : ByteArray) (L : Int) (r : Nat) (pa : Addr) : Env := { s := s, L := L, base := B, rb := r, sb := r + 1, tb := r + 2, pa := pa }

theorem ev_ok {B : Nat → Prop} {s : ByteArray} {L : Int} {r : Nat} {pa : Addr} (hs : s.size ≤ 1048576) (h0 : 0 ≤ L) (h1 : L < 9223372036854775807) (h4 : B 4) (q0 : ¬ B r) (q1 : ¬ B (r + 1)) (q2 : ¬ B (r + 2)) : (ev B s L r pa).Ok where
  size := hs
  l0 := h0
  l1 := h1
  glob := h4
  b1 := q0
  b2 := q1
  b3 := q2
  d1 := by show r ≠ r + 1; omega
  d2 := by show r ≠ r + 2; omega
  d3 := by show r + 1 ≠ r + 2; omega

theorem St.rebase {B B' : Nat → Prop} {s : ByteArray} {L : Int} {r : Nat} {pa : Addr} {bb m c st e P : Nat} {err : Value} {w : World} (h : St (ev B s L r pa) bb m c st e P err w)
    (hb : ¬ B' bb) (hk : ∀ k, B' k → k < w.heap.size) : St (ev B' s L r pa) bb m c st e P err w :=
  { r0 := h.r0, r1 := h.r1, r2 := h.r2, s0 := h.s0, s1 := h.s1, s2 := h.s2, s3 := h.s3, s4 := h.s4, s5 := h.s5, s6 := h.s6, s7 := h.s7, s8 := h.s8, s9 := h.s9, s10 := h.s10, g := h.g,
    fr := h.fr, fs := h.fs, ft := h.ft, fb := h.fb, scn := h.scn, row := h.row, cap := h.cap,
    le1 := h.le1, le2 := h.le2, lem := h.lem, pos := h.pos, mb := h.mb, le3 := h.le3, d4 := h.d4, d5 := h.d5, d6 := h.d6, b4 := hb, kp := hk, lt1 := h.lt1, lt2 := h.lt2, lt3 := h.lt3, lt4 := h.lt4 }

/-- what lies in the blocks that are kept, a scanner's state among it -/
theorem St.keep {B B' : Nat → Prop} {s : ByteArray} {L : Int} {r : Nat} {pa : Addr} {bb m c st e P : Nat} {err : Value} {w w' : World} (h : St (ev B s L r pa) bb m c st e P err w) (k : Below B' w w')
    (k0 : B' r) (k1 : B' (r + 1)) (k2 : B' (r + 2)) (kb : B' bb) (k4 : B' 4) (h4 : 4 < w.heap.size) : St (ev B s L r pa) bb m c st e P err w' := by
  have l0 : r < w.heap.size := h.lt1
  have l1 : r + 1 < w.heap.size := h.lt2
  have l2 : r + 2 < w.heap.size := h.lt3
  have lb : bb < w.heap.size := h.lt4
  have hz := k.size
  have x0 : ∀ o, w'.cell? ⟨r, o, none⟩ = w.cell? ⟨r, o, none⟩ := fun o => k.cell (p := ⟨r, o, none⟩) k0 l0
  have x1 : ∀ o, w'.cell? ⟨r + 1, o, none⟩ = w.cell? ⟨r + 1, o, none⟩ := fun o => k.cell (p := ⟨r + 1, o, none⟩) k1 l1
  have x2 : ∀ o, w'.cell? ⟨r + 2, o, none⟩ = w.cell? ⟨r + 2, o, none⟩ := fun o => k.cell (p := ⟨r + 2, o, none⟩) k2 l2
  have xb : ∀ o, w'.cell? ⟨bb, o, none⟩ = w.cell? ⟨bb, o, none⟩ := fun o => k.cell (p := ⟨bb, o, none⟩) kb lb
  exact
    { r0 := (x0 _).trans h.r0, r1 := (x0 _).trans h.r1, r2 := (x0 _).trans h.r2
      s0 := (x1 _).trans h.s0, s1 := (x1 _).trans h.s1, s2 := (x1 _).trans h.s2
      s3 := by obtain ⟨v, hv⟩ := h.s3; exact ⟨v, (x1 _).trans hv⟩
      s4 := (x1 _).trans h.s4, s5 := (x1 _).trans h.s5, s6 := (x1 _).trans h.s6, s7 := (x1 _).trans h.s7
      s8 := by obtain ⟨v, hv⟩ := h.s8; exact ⟨v, (x1 _).trans hv⟩
      s9 := by obtain ⟨v, hv⟩ := h.s9; exact ⟨v, (x1 _).trans hv⟩
      s10 := (x1 _).trans h.s10
      g := (k.cell (p := ⟨4, 0, none⟩) k4 h4).trans h.g
      fr := fun o => (k.frozen (p := ⟨r, o, none⟩) k0 l0).trans (h.fr o)
      fs := fun o => (k.frozen (p := ⟨r + 1, o, none⟩) k1 l1).trans (h.fs o)
      ft := fun o => (k.frozen (p := ⟨r + 2, o, none⟩) k2 l2).trans (h.ft o)
      fb := fun o => (k.frozen (p := ⟨bb, o, none⟩) kb lb).trans (h.fb o)
      scn := by
        obtain ⟨O, R, hs⟩ := h.scn
        exact ⟨O, R, (x2 _).trans hs.c0, (x2 _).trans hs.c1, (x2 _).trans hs.c2, (x2 _).trans hs.c3, (x2 _).trans hs.c4, fun o => (k.frozen (p := ⟨r + 2, o, none⟩) k2 l2).trans (hs.fz o)⟩
      row := fun i hi => (xb _).trans (h.row i hi)
      cap := fun j hj => by rw [xb]; exact h.cap j hj
      le1 := h.le1, le2 := h.le2, lem := h.lem, pos := h.pos, mb := h.mb, le3 := h.le3, d4 := h.d4, d5 := h.d5, d6 := h.d6, b4 := h.b4
      kp := fun j hj => Nat.lt_of_lt_of_le (h.kp j hj) hz
      lt1 := Nat.lt_of_lt_of_le l0 hz, lt2 := Nat.lt_of_lt_of_le l1 hz, lt3 := Nat.lt_of_lt_of_le l2 hz, lt4 := Nat.lt_of_lt_of_le lb hz }

/-- what is below n, and the four blocks of the other -/
def oth (n r bb : Nat) : Nat → Prop := fun k => k < n ∨ k = r ∨ k = r + 1 ∨ k = r + 2 ∨ k = bb

/-- two scanners share no block -/
def Dj (r bb r' bb' : Nat) : Prop :=
  ¬ (r = r' ∨ r = r' + 1 ∨ r = r' + 2 ∨ r = bb') ∧ ¬ (r + 1 = r' ∨ r + 1 = r' + 1 ∨ r + 1 = r' + 2 ∨ r + 1 = bb') ∧ ¬ (r + 2 = r' ∨ r + 2 = r' + 1 ∨ r + 2 = r' + 2 ∨ r + 2 = bb') ∧ ¬ (bb = r' ∨ bb = r' + 1 ∨ bb = r' + 2 ∨ bb = bb')

/-- the token behind a Scan that gave a line of i bytes -/
def Tok (s : ByteArray) (L : Int) (r p i bb : Nat) (w : World) : Prop :=
  w.cell? ⟨r + 2, 0, none⟩ = some (.pointer (some ⟨r + 1, 0, none⟩)) ∧
  ∃ a k, ((i : Int) ≤ L → w.cell? ⟨r + 1, 3, none⟩ = some (.slice (some ⟨bb, a, none⟩) i k) ∧ RowAt w bb a ((s.data.toList.drop p).take i) ∧ w.cell? ⟨r + 2, 3, none⟩ = some (.int .i64 0)) ∧
    (L < (i : Int) → w.cell? ⟨r + 1, 3, none⟩ = some (.slice (some ⟨bb, a, none⟩) 0 k) ∧ w.cell? ⟨r + 2, 3, none⟩ = some (.int .i64 (i : Int)))

theorem Tok.keep {s : ByteArray} {L : Int} {r p i bb : Nat} {w w' : World} {B' : Nat → Prop} (h : Tok s L r p i bb w) (k : Below B' w w') (k1 : B' (r + 1)) (k2 : B' (r + 2)) (kb : B' bb)
    (l1 : r + 1 < w.heap.size) (l2 : r + 2 < w.heap.size) (lb : bb < w.heap.size) : Tok s L r p i bb w' := by
  have x1 : ∀ o, w'.cell? ⟨r + 1, o, none⟩ = w.cell? ⟨r + 1, o, none⟩ := fun o => k.cell (p := ⟨r + 1, o, none⟩) k1 l1
  have x2 : ∀ o, w'.cell? ⟨r + 2, o, none⟩ = w.cell? ⟨r + 2, o, none⟩ := fun o => k.cell (p := ⟨r + 2, o, none⟩) k2 l2
  have xb : ∀ o, w'.cell? ⟨bb, o, none⟩ = w.cell? ⟨bb, o, none⟩ := fun o => k.cell (p := ⟨bb, o, none⟩) kb lb
  obtain ⟨h0, a, c, t1, t2⟩ := h
  refine ⟨(x2 _).trans h0, a, c, fun hl => ?_, fun hl => ?_⟩
  · obtain ⟨q1, q2, q3⟩ := t1 hl
    exact ⟨(x1 _).trans q1, fun j hj => (xb _).trans (q2 j hj), (x2 _).trans q3⟩
  · obtain ⟨q1, q2⟩ := t2 hl
    exact ⟨(x1 _).trans q1, (x2 _).trans q2⟩

/-- the end of the text -/
structure Fin (s : ByteArray) (r p : Nat) (pa : Addr) (w : World) : Prop where
  c0 : w.cell? ⟨r + 2, 0, none⟩ = some (.pointer (some ⟨r + 1, 0, none⟩))
  c4 : w.cell? ⟨r + 2, 4, none⟩ = some (.int .i64 ((s.size - p : Nat) : Int))
  c7 : w.cell? ⟨r + 1, 7, none⟩ = some (EV pa)
  g : w.cell? ⟨4, 0, none⟩ = some (EV pa)

theorem Fin.keep {s : ByteArray} {r p : Nat} {pa : Addr} {w w' : World} {B' : Nat → Prop} (h : Fin s r p pa w) (k : Below B' w w') (k1 : B' (r + 1)) (k2 : B' (r + 2)) (k4 : B' 4)
    (l1 : r + 1 < w.heap.size) (l2 : r + 2 < w.heap.size) (l4 : 4 < w.heap.size) : Fin s r p pa w' :=
  ⟨(k.cell (p := ⟨r + 2, 0, none⟩) k2 l2).trans h.c0, (k.cell (p := ⟨r + 2, 4, none⟩) k2 l2).trans h.c4, (k.cell (p := ⟨r + 1, 7, none⟩) k1 l1).trans h.c7, (k.cell (p := ⟨4, 0, none⟩) k4 l4).trans h.g⟩

/-- the other scanner is as it was, and nothing below n has turned -/
structure Side (n r bb r' bb' : Nat) (w w' : World) : Prop where
  bel : Below (oth n r' bb') w w'
  dj : Dj r bb r' bb'

theorem side_ok {n : Nat} {s : ByteArray} {L : Int} {r bb r' bb' : Nat} {pa : Addr} (hs : s.size ≤ 1048576) (h0 : 0 ≤ L) (h1 : L < 9223372036854775807) (h4 : 4 < n) (hn : n ≤ r) (hd : Dj r bb r' bb') : (ev (oth n r' bb') s L r pa).Ok := by
  obtain ⟨d0, d1, d2, _⟩ := hd
  refine ev_ok hs h0 h1 (.inl h4) ?_ ?_ ?_
  · rintro (h | h)
    · omega
    · exact d0 h
  · rintro (h | h)
    · omega
    · exact d1 h
  · rintro (h | h)
    · omega
    · exact d2 h

theorem side_st {n : Nat} {s : ByteArray} {L L' : Int} {r bb r' bb' : Nat} {pa : Addr} {m c st e m' c' st' e' : Nat} {w : World} {er er' : Value} (h : St (ev (· < n) s L r pa) bb m c st e 0 er w) (h' : St (ev (· < n) s L' r' pa) bb' m' c' st' e' 0 er' w) (hd : Dj r bb r' bb') :
    St (ev (oth n r' bb') s L r pa) bb m c st e 0 er w := by
  have l0 : r' < w.heap.size := h'.lt1
  have l1 : r' + 1 < w.heap.size := h'.lt2
  have l2 : r' + 2 < w.heap.size := h'.lt3
  have lb : bb' < w.heap.size := h'.lt4
  refine h.rebase ?_ ?_
  · rintro (q | q)
    · exact h.b4 q
    · exact hd.2.2.2 q
  · rintro k (q | rfl | rfl | rfl | rfl)
    · exact h.kp k q
    · exact l0
    · exact l1
    · exact l2
    · exact lb

theorem scan_at (n : Nat) (s : ByteArray) (L L' : Int) (r bb r' bb' p i m st e m' c' st' e' : Nat) (pa : Addr) (w : World) (hs : s.size ≤ 1048576) (h0 : 0 ≤ L) (h1 : L < 9223372036854775807) (h4 : 4 < n) (hn : n ≤ r)
    (h : St (ev (· < n) s L r pa) bb m p st e 0 .nilIface w) (h' : St (ev (· < n) s L' r' pa) bb' m' c' st' e' 0 .nilIface w) (hd : Dj r bb r' bb') (hi : Plain.NlAt (s.data.toList.drop p) i) :
    Calls Tryd.prog 10 #[.pointer (some ⟨r + 2, 0, none⟩)] w fun x w' => x = .returned (.bool true) ∧ ∃ b2 m2 st2 e2, St (ev (· < n) s L r pa) b2 m2 (p + i + 1) st2 e2 0 .nilIface w' ∧ St (ev (· < n) s L' r' pa) bb' m' c' st' e' 0 .nilIface w' ∧
      Dj r b2 r' bb' ∧ Below (oth n r' bb') w w' ∧ Tok s L r p i b2 w' := by
  have h4w : 4 < w.heap.size := h.kp 4 h4
  refine (zzscan (ev (oth n r' bb') s L r pa) (side_ok hs h0 h1 h4 hn hd) bb m p st e w (side_st h h' hd)).mono ?_
  rintro x w' ⟨hb, ho⟩
  rcases ho with ⟨j, b2, m2, st2, e2, hj, hr, hS, a, k, t1, t2⟩ | ⟨hno, _⟩
  rotate_left
  · exact absurd hi.1 (hno i)
  obtain rfl : j = i := hj.uniq hi
  have hS2 : St (ev (· < n) s L r pa) b2 m2 (p + j + 1) st2 e2 0 .nilIface w' := hS.rebase (fun q => hS.b4 (.inl q)) (fun q hq => hS.kp q (.inl hq))
  obtain ⟨O, R, hsc⟩ := hS.scn
  exact ⟨hr, b2, m2, st2, e2, hS2, h'.keep hb (.inr (.inl rfl)) (.inr (.inr (.inl rfl))) (.inr (.inr (.inr (.inl rfl)))) (.inr (.inr (.inr (.inr rfl)))) (.inl h4) h4w,
    ⟨hd.1, hd.2.1, hd.2.2.1, fun q => hS.b4 (.inr q)⟩, hb, hsc.c0, a, k, t1, t2⟩

theorem scan_no (n : Nat) (s : ByteArray) (L L' : Int) (r bb r' bb' p m st e m' c' st' e' : Nat) (pa : Addr) (w : World) (hs : s.size ≤ 1048576) (h0 : 0 ≤ L) (h1 : L < 9223372036854775807) (h4 : 4 < n) (hn : n ≤ r)
    (h : St (ev (· < n) s L r pa) bb m p st e 0 .nilIface w) (h' : St (ev (· < n) s L' r' pa) bb' m' c' st' e' 0 .nilIface w) (hd : Dj r bb r' bb') (hno : Plain.NoNl (s.data.toList.drop p)) :
    Calls Tryd.prog 10 #[.pointer (some ⟨r + 2, 0, none⟩)] w fun x w' => x = .returned (.bool false) ∧ St (ev (· < n) s L' r' pa) bb' m' c' st' e' 0 .nilIface w' ∧ Below (oth n r' bb') w w' ∧ Fin s r p pa w' := by
  have h4w : 4 < w.heap.size := h.kp 4 h4
  refine (zzscan (ev (oth n r' bb') s L r pa) (side_ok hs h0 h1 h4 hn hd) bb m p st e w (side_st h h' hd)).mono ?_
  rintro x w' ⟨hb, ho⟩
  rcases ho with ⟨j, _, _, _, _, hj, _⟩ | ⟨_, hr, c0, c4, c7, g⟩
  · exact absurd hj.1 (hno j)
  exact ⟨hr, h'.keep hb (.inr (.inl rfl)) (.inr (.inr (.inl rfl))) (.inr (.inr (.inr (.inl rfl)))) (.inr (.inr (.inr (.inr rfl)))) (.inl h4) h4w, hb, c0, c4, c7, g⟩

theorem scan_last (n : Nat) (s : ByteArray) (L : Int) (r bb r' bb' p m st e : Nat) (pa : Addr) (w : World) (hs : s.size ≤ 1048576) (h0 : 0 ≤ L) (h1 : L < 9223372036854775807) (h4 : 4 < n) (hn : n ≤ r)
    (h : St (ev (· < n) s L r pa) bb m p st e 0 .nilIface w) (hd : Dj r bb r' bb') (l0 : r' < w.heap.size) (l1 : r' + 1 < w.heap.size) (l2 : r' + 2 < w.heap.size) (lb : bb' < w.heap.size) (hno : Plain.NoNl (s.data.toList.drop p)) :
    Calls Tryd.prog 10 #[.pointer (some ⟨r + 2, 0, none⟩)] w fun x w' => x = .returned (.bool false) ∧ Below (oth n r' bb') w w' ∧ Fin s r p pa w' := by
  have hS : St (ev (oth n r' bb') s L r pa) bb m p st e 0 .nilIface w := by
    refine h.rebase ?_ ?_
    · rintro (q | q)
      · exact h.b4 q
      · exact hd.2.2.2 q
    · rintro k (q | rfl | rfl | rfl | rfl)
      · exact h.kp k q
      · exact l0
      · exact l1
      · exact l2
      · exact lb
  refine (zzscan (ev (oth n r' bb') s L r pa) (side_ok hs h0 h1 h4 hn hd) bb m p st e w hS).mono ?_
  rintro x w' ⟨hb, ho⟩
  rcases ho with ⟨j, _, _, _, _, hj, _⟩ | ⟨_, hr, c0, c4, c7, g⟩
  · exact absurd hj.1 (hno j)
  exact ⟨hr, hb, c0, c4, c7, g⟩

theorem Dj.symm {r bb r' bb' : Nat} (h : Dj r bb r' bb') : Dj r' bb' r bb := by
  unfold Dj at *
  omega

theorem toBelow {B : Nat → Prop} {a b : World} {n : Nat} (h : Below B a b) (hB : ∀ k, k < n → B k) (hn : n ≤ a.heap.size) : Go.RowKit.Below n a b :=
  ⟨h.os, h.tape, h.output, h.size, fun k hk => h.block k (hB k hk) (by omega)⟩

end Go.Proofs.Qxb6608719aDoor.Sk
