/-
  FnTraceScannerGreaterLimitLosesNoLine (4): the whole walk.
-/
import Derived.Test.Qxb6608719aDoorKMade
import Derived.Deep.LoopGhost
namespace Go.Proofs.Qxb6608719aDoor.Sk
open Go.RowKit Go.Proofs.Qxb6608719aDoor.Sc

set_option maxRecDepth 100000 in
theorem far4 (s : ByteArray) (L M : Int) (w : World) (hm : s.size ≤ maxLen) (h : 1048576 < s.size) :
    Calls Tryd.prog 4 #[.string s, .int .i64 L, .int .i64 M] w fun e w' => e = .returned (.bool true) ∧ Go.RowKit.Below w.heap.size w w' := by
  go_enter Tryd.func4, Tryd.ntmps4
  go_wp2_with (go_at_call 16; refine (bytes16_no _ _ _ _ hm h).mono ?_; rintro e w' ⟨rfl, rfl⟩)
  go_ret
  exact ⟨rfl, Go.RowKit.Below.refl _ _⟩

set_option maxRecDepth 100000 in
theorem out4 (s : ByteArray) (L M : Int) (w : World) (h : s.size ≤ 1048576) (hL : L < 0 ∨ M < L ∨ 9223372036854775807 ≤ M) :
    Calls Tryd.prog 4 #[.string s, .int .i64 L, .int .i64 M] w fun e w' => e = .returned (.bool true) ∧ Go.RowKit.Below w.heap.size w w' := by
  by_cases h1 : L < 0
  · go_enter Tryd.func4, Tryd.ntmps4
    go_wp2_with (go_at_call 16; refine (bytes16 _ _ _ _ h).mono ?_; rintro e w' ⟨rfl, rfl⟩)
    go_ret
    exact ⟨rfl, Go.RowKit.Below.refl _ _⟩
  by_cases h2 : M < L
  · go_enter Tryd.func4, Tryd.ntmps4
    go_wp2_with (go_at_call 16; refine (bytes16 _ _ _ _ h).mono ?_; rintro e w' ⟨rfl, rfl⟩)
    go_ret
    exact ⟨rfl, Go.RowKit.Below.refl _ _⟩
  have h3 : 9223372036854775807 ≤ M := by omega
  go_enter Tryd.func4, Tryd.ntmps4
  go_wp2_with (go_at_call 16; refine (bytes16 _ _ _ _ h).mono ?_; rintro e w' ⟨rfl, rfl⟩)
  go_ret
  exact ⟨rfl, Go.RowKit.Below.refl _ _⟩

theorem rowN {B : Nat} {w w1 : World} (h : Go.RowKit.Below B w w1) (k : Nat) : Go.RowKit.Below B w (w1.drewN k) := h.trans ⟨rfl, rfl, rfl, Nat.le_refl _, fun _ _ => rfl⟩

/-- the token as the law's walk meets it: t its string, o its over -/
structure Told (n r : Nat) (A : Option Addr) (k c : Nat) (o : Int) (t : ByteArray) (w : World) : Prop where
  c0 : w.cell? ⟨r, 0, none⟩ = some (.pointer (some ⟨n, 0, none⟩))
  c3 : w.cell? ⟨n, 3, none⟩ = some (.slice A k c)
  cv : (convert 31 9 (.slice A k c)).run Tryd.prog w = .ok (.string t) w
  o3 : w.cell? ⟨r, 3, none⟩ = some (.int .i64 o)

theorem Tok.kept {s : ByteArray} {L : Int} {r p i bb : Nat} {w : World} (h : Tok s L r p i bb w) (hi : (i : Int) ≤ L) (hl : p + i ≤ s.size) :
    ∃ A c, Told (r + 1) (r + 2) A i c 0 ⟨((s.data.toList.drop p).take i).toArray⟩ w := by
  obtain ⟨h0, a, k, t1, _⟩ := h
  obtain ⟨q1, q2, q3⟩ := t1 hi
  have hlen : ((s.data.toList.drop p).take i).length = i := by
    rw [List.length_take, List.length_drop]
    have : s.data.toList.length = s.size := rfl
    omega
  exact ⟨_, _, h0, q1, conv w bb a i k _ hlen q2, q3⟩

theorem Tok.passed {s : ByteArray} {L : Int} {r p i bb : Nat} {w : World} (h : Tok s L r p i bb w) (hi : L < (i : Int)) :
    ∃ A c, Told (r + 1) (r + 2) A 0 c (i : Int) ⟨#[]⟩ w := by
  obtain ⟨h0, a, k, _, t2⟩ := h
  obtain ⟨q1, q2⟩ := t2 hi
  exact ⟨_, _, h0, q1, conv w bb a 0 k [] rfl (rowAt_nil _ _ _), q2⟩

/-- both scanners stand at p -/
def Both (s : ByteArray) (L M : Int) (n : Nat) (pa : Addr) (w0 : World) (p : Nat) (wr : World) : Prop :=
  Go.RowKit.Below n w0 wr ∧ ∃ b1 m1 st1 e1 b2 m2 st2 e2, St (ev (· < n) s L n pa) b1 m1 p st1 e1 0 .nilIface wr ∧ St (ev (· < n) s M (n + 4) pa) b2 m2 p st2 e2 0 .nilIface wr ∧ Dj n b1 (n + 4) b2

set_option maxRecDepth 100000 in
set_option maxHeartbeats 2000000 in
theorem main4 (s : ByteArray) (L M : Int) (pa : Addr) (w : World) (h : s.size ≤ 1048576) (h0 : 0 ≤ L) (hLM : L ≤ M) (h1 : M < 9223372036854775807) (h4 : 4 < w.heap.size) (hg : w.cell? ⟨4, 0, none⟩ = some (EV pa)) :
    Calls Tryd.prog 4 #[.string s, .int .i64 L, .int .i64 M] w fun e w' => e = .returned (.bool true) ∧ Go.RowKit.Below w.heap.size w w' := by
  have HG : Hid (w.cell? ⟨4, 0, none⟩ = some (EV pa)) := hg
  clear hg
  have hsz : Hid (s.data.toList.length = s.size) := rfl
  obtain ⟨q, hq, hLE, hlast⟩ := last18 s w (by omega)
  have HLE : Hid (LastEnd s.data.toList q) := hLE
  have HLA : Hid _ := hlast
  clear hLE hlast
  go_enter Tryd.func4, Tryd.ntmps4
  go_wp2_with fail
  refine (bytes16 _ _ _ _ h).mono ?_
  rintro e w ⟨rfl, rfl⟩
  go_wp2_with fail
  refine (count17 _ _ (by omega)).mono ?_
  rintro e w ⟨rfl, rfl⟩
  go_wp2_with fail
  refine Calls.mono HLA.out ?_
  rintro e w ⟨rfl, rfl⟩
  generalize hcn : (cnt s.data.toList s.size : Int) = cn at *
  have HCN : Hid _ := hcn
  clear hcn HLA
  go_wp2_with fail
  refine (zznew _ _ _ h0 (by omega)).mono ?_
  rintro e w1 ⟨rfl, hw1⟩
  replace hw1 : w1 = newW s L w := hw1
  subst hw1
  go_wp2_with fail
  refine (zznew _ _ _ (by omega) h1).mono ?_
  rintro e w2 ⟨rfl, hw2⟩
  replace hw2 : w2 = newW s M (newW s L w) := hw2
  rw [newW_size]
  obtain ⟨hB0, hS1, hS2⟩ := two_made s L M pa w h0 (by omega) h4 HG.out
  rw [← hw2] at hB0 hS1 hS2
  have HB : Hid (Both s L M w.heap.size pa w 0 w2) := ⟨hB0, _, _, _, _, _, _, _, _, hS1, hS2, by unfold Dj; omega⟩
  clear hw2 hB0 hS1 hS2
  go_wp2_with fail
  go_loopg [11, 12, 13] s.size (fun g v11 v12 v13 wr => ∃ p c : Nat, c ≤ p ∧ p ≤ s.size ∧ g = s.size - p ∧ v11 = .int .i64 (c : Int) ∧ v12 = .int .i64 (p : Int) ∧ v13 = .int .i64 (c : Int) ∧
    Hid (c = cnt s.data.toList p ∧ (p = 0 ∨ s.data.toList[p - 1]? = some 10)) ∧ Hid (Both s L M w.heap.size pa w p wr))
  case atStart => exact ⟨0, 0, Nat.le_refl _, Nat.zero_le _, rfl, rfl, rfl, rfl, ⟨(cnt_zero _).symm, .inl rfl⟩, HB⟩
  case round =>
    obtain ⟨p, c, hcp, hps, hgk, rfl, rfl, rfl, HC, HB⟩ := hrel
    have HGK : Hid _ := hgk
    clear hgk
    obtain ⟨hbel, b1, m1, st1, e1, b2, m2, st2, e2, hS1, hS2, hD⟩ := HB.out
    have HBEL : Hid _ := hbel
    have HS1 : Hid _ := hS1
    have HS2 : Hid _ := hS2
    have HD : Hid _ := hD
    clear hbel hS1 hS2 hD HB
    have hci : (c : Int) ≤ (s.size : Int) := by omega
    rcases Plain.nl_cases (s.data.toList.drop p) with hno | ⟨i, hi⟩
    · have HNO : Hid _ := hno
      clear hno
      have hqp : q = p := HLE.out.is HC.out.2 HNO.out
      subst hqp
      go_wp2_with fail
      refine (scan_no w.heap.size s L M w.heap.size b1 (w.heap.size + 4) b2 q m1 st1 e1 m2 q st2 e2 pa _ h h0 (by omega) h4 (Nat.le_refl _) HS1.out HS2.out HD.out HNO.out).mono ?_
      rintro x w3 ⟨rfl, hS3, hb3, hF1⟩
      have HS3 : Hid _ := hS3
      have HB3 : Hid _ := hb3
      have HF1 : Hid _ := hF1
      clear hS3 hb3 hF1
      go_wp2_with fail
      have lt1 : w.heap.size < w3.heap.size := Nat.lt_of_lt_of_le HS1.out.lt1 HB3.out.size
      have lt2 : w.heap.size + 1 < w3.heap.size := Nat.lt_of_lt_of_le HS1.out.lt2 HB3.out.size
      have lt3 : w.heap.size + 2 < w3.heap.size := Nat.lt_of_lt_of_le HS1.out.lt3 HB3.out.size
      have lt4 : b1 < w3.heap.size := Nat.lt_of_lt_of_le HS1.out.lt4 HB3.out.size
      refine (scan_last w.heap.size s M (w.heap.size + 4) b2 w.heap.size b1 q m2 st2 e2 pa w3 h (by omega) h1 h4 (by omega) HS3.out (Dj.symm HD.out) lt1 lt2 lt3 lt4 HNO.out).mono ?_
      rintro x w4 ⟨rfl, hb4, hF2⟩
      have hF1 := HF1.out.keep hb4 (.inr (.inr (.inl rfl))) (.inr (.inr (.inr (.inl rfl)))) (.inl h4) lt2 lt3 (by omega)
      have hbel : Go.RowKit.Below w.heap.size w w4 := HBEL.out.trans ((toBelow HB3.out (fun k hk => .inl hk) HBEL.out.size).trans (toBelow hb4 (fun k hk => .inl hk) (by omega)))
      have HBL : Hid _ := hbel
      have ecn : ((c : Int) == cn) = true := beq_iff_eq.2 (by rw [← HCN.out, cnt_end hps HNO.out, ← HC.out.1])
      obtain ⟨p0, p4, p7, pg⟩ := hF1
      obtain ⟨q0, q4, q7, _⟩ := hF2
      have P0 : Hid _ := p0
      have P7 : Hid _ := p7
      have PG : Hid _ := pg
      have Q0 : Hid _ := q0
      have Q7 : Hid _ := q7
      have P4 : Hid (w4.cell? ⟨w.heap.size + 2, 4, none⟩ = some (.int .i64 ((s.size : Int) - (q : Int)))) := by
        show _ = _
        rw [p4]; congr 2; omega
      have Q4 : Hid (w4.cell? ⟨w.heap.size + 4 + 2, 4, none⟩ = some (.int .i64 ((s.size : Int) - (q : Int)))) := by
        show _ = _
        rw [q4]; congr 2; omega
      clear p0 p4 p7 pg q0 q4 q7 hb4 hbel lt1 lt2 lt3 lt4 HS1 HS2 HS3 HB3 HF1 HD HBEL
      go_wp2_with (first
        | (go_at_call 12; with_reducible refine (zztail ((s.size : Int) - (q : Int)) (w.heap.size + 2) w4 P4.out).mono ?_; rintro r w5 ⟨rfl, rfl⟩)
        | (go_at_call 12; with_reducible refine (zztail ((s.size : Int) - (q : Int)) (w.heap.size + 4 + 2) _ Q4.out).mono ?_; rintro r w6 ⟨rfl, rfl⟩)
        | (go_at_call 11; refine (zzerr (w.heap.size + 2) (w.heap.size + 1) pa _ P0.out P7.out PG.out).mono ?_; rintro r w7 ⟨rfl, k7, rfl⟩)
        | (go_at_call 11; refine (zzerr (w.heap.size + 4 + 2) (w.heap.size + 4 + 1) pa _ (by exact Q0.out) (by exact Q7.out) (by exact PG.out)).mono ?_; rintro r w8 ⟨rfl, k8, rfl⟩))
      go_ret
      exact ⟨rfl, rowN HBL.out _⟩
    · have hil := hi.lt
      rw [List.length_drop, hsz.out] at hil
      have HI : Hid _ := hi
      clear hi
      go_wp2_with fail
      refine (scan_at w.heap.size s L M w.heap.size b1 (w.heap.size + 4) b2 p i m1 st1 e1 m2 p st2 e2 pa _ h h0 (by omega) h4 (Nat.le_refl _) HS1.out HS2.out HD.out HI.out).mono ?_
      rintro x w3 ⟨rfl, b3, m3, st3, e3, hS3, hS4, hD3, hb3, hT1⟩
      have HS3 : Hid _ := hS3
      have HS4 : Hid _ := hS4
      have HD3 : Hid _ := hD3
      have HB3 : Hid _ := hb3
      have HT1 : Hid _ := hT1
      clear hS3 hS4 hD3 hb3 hT1
      go_wp2_with fail
      refine (scan_at w.heap.size s M L (w.heap.size + 4) b2 w.heap.size b3 p i m2 st2 e2 m3 (p + i + 1) st3 e3 pa w3 h (by omega) h1 h4 (by omega) HS4.out HS3.out (Dj.symm HD3.out) HI.out).mono ?_
      rintro x w4 ⟨rfl, b5, m5, st5, e5, hS5, hS6, hD5, hb5, hT2⟩
      have hlt2 : w.heap.size + 1 < w3.heap.size := HS3.out.lt2
      have hlt3 : w.heap.size + 2 < w3.heap.size := HS3.out.lt3
      have hlt4 : b3 < w3.heap.size := HS3.out.lt4
      have HT2 : Hid (Tok s M (w.heap.size + 4) p i b5 w4) := hT2
      have hT1' : Tok s L w.heap.size p i b3 w4 := Tok.keep (s := s) (L := L) (r := w.heap.size) (p := p) (i := i) (bb := b3) HT1.out hb5 (.inr (.inr (.inl rfl))) (.inr (.inr (.inr (.inl rfl)))) (.inr (.inr (.inr (.inr rfl)))) hlt2 hlt3 hlt4
      clear HT1
      have HT1 : Hid (Tok s L w.heap.size p i b3 w4) := hT1'
      have hbel : Go.RowKit.Below w.heap.size w w4 := HBEL.out.trans ((toBelow HB3.out (fun k hk => .inl hk) HBEL.out.size).trans (toBelow hb5 (fun k hk => .inl hk) (by omega)))
      have HB2 : Hid (Both s L M w.heap.size pa w (p + i + 1) w4) := ⟨hbel, _, _, _, _, _, _, _, _, hS6, hS5, Dj.symm hD5⟩
      have HC2 : Hid (c + 1 = cnt s.data.toList (p + i + 1) ∧ (p + i + 1 = 0 ∨ s.data.toList[p + i + 1 - 1]? = some 10)) := ⟨by rw [cnt_line HI.out, ← HC.out.1], .inr (end_line HI.out)⟩
      clear hS5 hS6 hD5 hb5 hT2 hT1' hlt2 hlt3 hlt4 hbel HS1 HS2 HS3 HS4 HD HD3 HB3 HBEL HC HI
      by_cases hiL : (i : Int) ≤ L
      · have hiM : (i : Int) ≤ M := by omega
        obtain ⟨A1, k1, T1⟩ := Tok.kept (s := s) (L := L) (r := w.heap.size) (p := p) (i := i) (bb := b3) HT1.out hiL (by omega)
        obtain ⟨A2, k2, T2⟩ := Tok.kept (s := s) (L := M) (r := w.heap.size + 4) (p := p) (i := i) (bb := b5) HT2.out hiM (by omega)
        have T10 : Hid _ := T1.c0
        have T13 : Hid _ := T1.c3
        have T1o : Hid _ := T1.o3
        have T20 : Hid _ := T2.c0
        have T23 : Hid _ := T2.c3
        have T2o : Hid _ := T2.o3
        have cv1 := T1.cv
        have cv2 := T2.cv
        clear T1 T2 HT1 HT2
        have hln : (⟨((s.data.toList.drop p).take i).toArray⟩ : ByteArray).size = i := by
          show ((s.data.toList.drop p).take i).length = i
          rw [List.length_take, List.length_drop, hsz.out]; omega
        generalize (⟨((s.data.toList.drop p).take i).toArray⟩ : ByteArray) = ln at *
        have hqq : (ln.toList == ln.toList) = true := beq_self_eq_true _
        go_wp2_with (first
          | (go_at_call 13; with_reducible refine (zzbytes (w.heap.size + 2) (w.heap.size + 1) A1 i k1 w4 T10.out T13.out).mono ?_; rintro r w4 ⟨rfl, rfl⟩)
          | (go_at_call 13; with_reducible refine (zzbytes (w.heap.size + 4 + 2) (w.heap.size + 4 + 1) A2 i k2 w4 T20.out T23.out).mono ?_; rintro r w4 ⟨rfl, rfl⟩)
          | (go_at_call 15; with_reducible refine (zzover 0 (w.heap.size + 2) w4 T1o.out).mono ?_; rintro r w4 ⟨rfl, rfl⟩)
          | (go_at_call 15; with_reducible refine (zzover 0 (w.heap.size + 4 + 2) w4 T2o.out).mono ?_; rintro r w4 ⟨rfl, rfl⟩))
        go_roundg (s.size - (p + i + 1))
        case measure => have := HGK.out; omega
        case rel => exact ⟨p + i + 1, c + 1, by omega, by omega, rfl, by go_num, by go_num, by go_num, HC2, HB2⟩
      by_cases hiM : (i : Int) ≤ M
      · have hiL' : L < (i : Int) := by omega
        clear hiL
        obtain ⟨A1, k1, T1⟩ := Tok.passed (s := s) (L := L) (r := w.heap.size) (p := p) (i := i) (bb := b3) HT1.out hiL'
        obtain ⟨A2, k2, T2⟩ := Tok.kept (s := s) (L := M) (r := w.heap.size + 4) (p := p) (i := i) (bb := b5) HT2.out hiM (by omega)
        have T10 : Hid _ := T1.c0
        have T13 : Hid _ := T1.c3
        have T1o : Hid _ := T1.o3
        have T20 : Hid _ := T2.c0
        have T23 : Hid _ := T2.c3
        have T2o : Hid _ := T2.o3
        have cv1 := T1.cv
        have cv2 := T2.cv
        clear T1 T2 HT1 HT2
        have hln : (⟨((s.data.toList.drop p).take i).toArray⟩ : ByteArray).size = i := by
          show ((s.data.toList.drop p).take i).length = i
          rw [List.length_take, List.length_drop, hsz.out]; omega
        generalize (⟨((s.data.toList.drop p).take i).toArray⟩ : ByteArray) = ln at *
        have hqq : (ln.toList == ln.toList) = true := beq_self_eq_true _
        go_wp2_with (first
          | (go_at_call 13; with_reducible refine (zzbytes (w.heap.size + 2) (w.heap.size + 1) A1 0 k1 w4 T10.out T13.out).mono ?_; rintro r w4 ⟨rfl, rfl⟩)
          | (go_at_call 13; with_reducible refine (zzbytes (w.heap.size + 4 + 2) (w.heap.size + 4 + 1) A2 i k2 w4 T20.out T23.out).mono ?_; rintro r w4 ⟨rfl, rfl⟩)
          | (go_at_call 15; with_reducible refine (zzover (i : Int) (w.heap.size + 2) w4 T1o.out).mono ?_; rintro r w4 ⟨rfl, rfl⟩)
          | (go_at_call 15; with_reducible refine (zzover 0 (w.heap.size + 4 + 2) w4 T2o.out).mono ?_; rintro r w4 ⟨rfl, rfl⟩))
        go_roundg (s.size - (p + i + 1))
        case measure => have := HGK.out; omega
        case rel => exact ⟨p + i + 1, c + 1, by omega, by omega, rfl, by go_num, by go_num, by go_num, HC2, HB2⟩
      · have hiL' : L < (i : Int) := by omega
        have hiM' : M < (i : Int) := by omega
        clear hiL hiM
        obtain ⟨A1, k1, T1⟩ := Tok.passed (s := s) (L := L) (r := w.heap.size) (p := p) (i := i) (bb := b3) HT1.out hiL'
        obtain ⟨A2, k2, T2⟩ := Tok.passed (s := s) (L := M) (r := w.heap.size + 4) (p := p) (i := i) (bb := b5) HT2.out hiM'
        have T10 : Hid _ := T1.c0
        have T13 : Hid _ := T1.c3
        have T1o : Hid _ := T1.o3
        have T20 : Hid _ := T2.c0
        have T23 : Hid _ := T2.c3
        have T2o : Hid _ := T2.o3
        have cv1 := T1.cv
        have cv2 := T2.cv
        clear T1 T2 HT1 HT2
        go_wp2_with (first
          | (go_at_call 13; with_reducible refine (zzbytes (w.heap.size + 2) (w.heap.size + 1) A1 0 k1 w4 T10.out T13.out).mono ?_; rintro r w4 ⟨rfl, rfl⟩)
          | (go_at_call 13; with_reducible refine (zzbytes (w.heap.size + 4 + 2) (w.heap.size + 4 + 1) A2 0 k2 w4 T20.out T23.out).mono ?_; rintro r w4 ⟨rfl, rfl⟩)
          | (go_at_call 15; with_reducible refine (zzover (i : Int) (w.heap.size + 2) w4 T1o.out).mono ?_; rintro r w4 ⟨rfl, rfl⟩)
          | (go_at_call 15; with_reducible refine (zzover (i : Int) (w.heap.size + 4 + 2) w4 T2o.out).mono ?_; rintro r w4 ⟨rfl, rfl⟩))
        go_roundg (s.size - (p + i + 1))
        case measure => have := HGK.out; omega
        case rel => exact ⟨p + i + 1, c + 1, by omega, by omega, rfl, by go_num, by go_num, by go_num, HC2, HB2⟩

end Go.Proofs.Qxb6608719aDoor.Sk
