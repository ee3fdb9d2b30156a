/-
  (*bufio.Scanner).Scan.
-/
import Derived.Test.Qxb6608719aDoorKRound
namespace Go.Proofs.Qxb6608719aDoor.Sk
open Go.RowKit Go.Proofs.Qxb6608719aDoor.Sc

theorem body_is : ((Tryd.f27.body.bind firstLoop).getD .skip) = .block 1 (rest 0 (unblock ((Tryd.f27.body.bind firstLoop).getD .skip))) := by rfl

theorem loop27 (E : Env) (hE : E.Ok) (p : Nat) (w0 : World) (n0 : Nat) (Q : Exit → Act → World → Prop) (a : Act) (w : World) (hf : Fr (.pointer (some ⟨E.sb, 0, none⟩)) a) (hR : Rel E p w0 n0 w)
    (hret : ∀ a' w' b, Fr (.pointer (some ⟨E.sb, 0, none⟩)) a' → a'.tmps[2]? = some (.bool b) → Out E p w0 (.returned (.bool b)) w' → Q .ret a' w') :
    Code.wp Tryd.prog (.loop ((Tryd.f27.body.bind firstLoop).getD .skip)) Q a w := by
  refine wp_loop_ghost (fun g a w => Fr (.pointer (some ⟨E.sb, 0, none⟩)) a ∧ Rel E p w0 g w) n0 ⟨hf, hR⟩ ?_
  rintro g a w ⟨hf, hR⟩
  obtain ⟨u, rfl⟩ := fr_of _ _ hf
  rw [body_is]
  refine wp_block ?_
  exact round E hE p w0 g u w hR _ (fun a' w' g' hf hlt hR' => ⟨g', hlt, hf, hR'⟩) (fun a' w' b hf hr ho => hret a' w' b hf hr ho)

set_option maxRecDepth 100000 in
set_option maxHeartbeats 2000000 in
theorem scan (E : Env) (hE : E.Ok) (bb m p st e : Nat) (w : World) (hS : St E bb m p st e 0 .nilIface w) :
    Calls Tryd.prog 27 #[.pointer (some ⟨E.sb, 0, none⟩)] w (Out E p w) := by
  have h10 := hS.s10
  obtain ⟨b9, h9⟩ := hS.s9
  have f9 := hS.fs 9
  have hle1 := hS.le1
  have HS := hid hS
  clear hS
  go_enter Tryd.func27, Tryd.ntmps27
  go_wp2_with fail
  refine loop27 E hE p w (2 * (E.s.size - (p + (e - st))) + 1) _ _ _ ⟨rfl, rfl, rfl⟩ ?_ ?_
  · refine ⟨bb, m, p, st, e - st, 0, below_set (Below.refl _ _) E.sb 9 hE.b2 _, rfl, by rw [List.take_zero]; exact Plain.noNl_nil, .inl rfl, .inl ⟨rfl, ?_⟩⟩
    have := HS.out.set9 hE true
    rwa [show st + (e - st) = e by omega]
  · intro a' w' b hf hr ho
    obtain ⟨u, rfl⟩ := fr_of _ _ hf
    have hu : u 2 = .bool b := by simpa [fr] using hr
    go_ret
    show Out E p w (.returned (u 2)) w'
    rw [hu]
    exact ho

/-! ### The law's wrappers -/
theorem zzscan (E : Env) (hE : E.Ok) (bb m p st e : Nat) (w : World) (hS : St E bb m p st e 0 .nilIface w) :
    Calls Tryd.prog 10 #[.pointer (some ⟨E.tb, 0, none⟩)] w (Out E p w) := by
  obtain ⟨O, R, hs⟩ := hS.scn
  have h0 := hs.c0
  have HC := hid (scan E hE bb m p st e w hS)
  clear hs hS
  go_enter Tryd.func10, Tryd.ntmps10
  go_wp2_with fail
  refine Calls.mono HC.out ?_
  intro r w1 ho
  obtain ⟨b, hb⟩ : ∃ b : Bool, r = .returned (.bool b) := by
    rcases ho.2 with ⟨_, _, _, _, _, _, h, _⟩ | ⟨_, h, _⟩
    · exact ⟨_, h⟩
    · exact ⟨_, h⟩
  subst hb
  have HO := hid ho
  clear ho HC
  go_wp2_with fail
  go_ret
  exact HO.out

theorem zzerr (tb sb : Nat) (pa : Addr) (w : World) (h0 : w.cell? ⟨tb, 0, none⟩ = some (.pointer (some ⟨sb, 0, none⟩))) (h7 : w.cell? ⟨sb, 7, none⟩ = some (EV pa)) (hE : w.cell? ⟨4, 0, none⟩ = some (EV pa)) :
    Calls Tryd.prog 11 #[.pointer (some ⟨tb, 0, none⟩)] w fun r w' => r = .returned .nilIface ∧ ∃ k, w' = w.drewN k := by
  have H7 := hid h7
  have HG := hid hE
  clear h7 hE
  go_enter Tryd.func11, Tryd.ntmps11
  go_wp2_with fail
  refine (errNil sb pa w H7.out HG.out).mono ?_
  rintro r w1 ⟨rfl, k, rfl⟩
  go_wp2_with fail
  go_ret
  exact ⟨rfl, k, rfl⟩

theorem zzbytes (tb sb : Nat) (A : Option Addr) (n c : Nat) (w : World) (h0 : w.cell? ⟨tb, 0, none⟩ = some (.pointer (some ⟨sb, 0, none⟩))) (h3 : w.cell? ⟨sb, 3, none⟩ = some (.slice A n c)) :
    Calls Tryd.prog 13 #[.pointer (some ⟨tb, 0, none⟩)] w fun r w' => r = .returned (.slice A n c) ∧ w' = w := by
  have H3 := hid h3
  clear h3
  go_enter Tryd.func13, Tryd.ntmps13
  go_wp2_with fail
  refine (Sc.bytes sb A n c w H3.out).mono ?_
  rintro r w1 ⟨rfl, rfl⟩
  go_wp2_with fail
  go_ret
  exact ⟨rfl, rfl⟩

/-! ### A new scanner's state -/
theorem first_pos (L : Int) (h : 0 ≤ L) : 0 < first L := by unfold first; split <;> omega
theorem first_le (L : Int) (h : 0 ≤ L) : (first L : Int) ≤ L + 1 := by unfold first; split <;> omega
theorem first_mb (L : Int) (h : 0 ≤ L) : first L ≤ 65536 := by unfold first; split <;> omega

/-- The environment of a scanner that is made in w. -/
def envOf (s : ByteArray) (L : Int) (B : Nat → Prop) (pa : Addr) (w : World) : Env := { s := s, L := L, base := B, rb := w.heap.size, sb := w.heap.size + 1, tb := w.heap.size + 2, pa := pa }

theorem envOf_ok (s : ByteArray) (L : Int) (B : Nat → Prop) (pa : Addr) (w : World) (hs : s.size ≤ 1048576) (h0 : 0 ≤ L) (h1 : L < 9223372036854775807) (hB : ∀ k, B k → k < w.heap.size) (h4 : B 4) : (envOf s L B pa w).Ok where
  size := hs
  l0 := h0
  l1 := h1
  glob := h4
  b1 := fun h => Nat.lt_irrefl _ (hB _ h)
  b2 := fun h => by have : w.heap.size + 1 < w.heap.size := hB _ h; omega
  b3 := fun h => by have : w.heap.size + 2 < w.heap.size := hB _ h; omega
  d1 := by show w.heap.size ≠ w.heap.size + 1; omega
  d2 := by show w.heap.size ≠ w.heap.size + 2; omega
  d3 := by show w.heap.size + 1 ≠ w.heap.size + 2; omega

theorem made_st (s : ByteArray) (L : Int) (B : Nat → Prop) (pa : Addr) (w : World) (h0 : 0 ≤ L) (hB : ∀ k, B k → k < w.heap.size) (h4 : B 4) (hg : w.cell? ⟨4, 0, none⟩ = some (EV pa)) :
    St (envOf s L B pa w) (w.heap.size + 3) (first L) 0 0 0 0 .nilIface (made w.heap.size L (first L) (w.alloc (.cells #[.string s, .int .i64 0, .int .i64 (-1)] 58))).drew := by
  have hp := first_pos L h0
  have hz : (made w.heap.size L (first L) (w.alloc (.cells #[.string s, .int .i64 0, .int .i64 (-1)] 58))).drew.heap.size = w.heap.size + 4 := by rw [made_size, World.size_alloc]
  have hr : ∀ o, (made w.heap.size L (first L) (w.alloc (.cells #[.string s, .int .i64 0, .int .i64 (-1)] 58))).drew.cell? ⟨w.heap.size, o, none⟩ = #[Value.string s, .int .i64 0, .int .i64 (-1)][o]? := fun o => by
    have hb := made_below w.heap.size L (first L) (w.alloc (.cells #[.string s, .int .i64 0, .int .i64 (-1)] 58)) (w.heap.size + 1) (by rw [World.size_alloc]; exact Nat.le_refl _)
    rw [hb.cell (p := ⟨w.heap.size, o, none⟩) (by show w.heap.size < w.heap.size + 1; omega)]
    exact World.cell?_alloc_new w _ _ o
  have hsc : ∀ o, (made w.heap.size L (first L) (w.alloc (.cells #[.string s, .int .i64 0, .int .i64 (-1)] 58))).drew.cell? ⟨w.heap.size + 1, o, none⟩ =
      #[Value.iface 43 (.pointer (some ⟨w.heap.size, 0, none⟩)), .func (.func 34) #[.pointer (some ⟨w.heap.size + 2, 0, none⟩)] #[], .int .i64 (L + 1), .slice none 0 0, .slice (some ⟨w.heap.size + 3, 0, none⟩) (first L) (first L), .int .i64 0, .int .i64 0, .nilIface, .int .i64 0, .bool false, .bool false][o]? := fun o => by
    unfold made
    rw [World.cell?_drew, World.cell?_alloc_lt _ _ _ (by simp), World.cell?_alloc_lt _ _ _ (by simp)]
    have h := fun X => World.cell?_alloc_new (w.alloc X) #[Value.iface 43 (.pointer (some ⟨w.heap.size, 0, none⟩)), .func (.func 34) #[.pointer (some ⟨w.heap.size + 2, 0, none⟩)] #[], .int .i64 (L + 1), .slice none 0 0, .slice (some ⟨w.heap.size + 3, 0, none⟩) (first L) (first L), .int .i64 0, .int .i64 0, .nilIface, .int .i64 0, .bool false, .bool false] 61 o
    simp only [World.size_alloc] at h ⊢
    exact h _
  have hbuf : ∀ j, j < first L → ((made w.heap.size L (first L) (w.alloc (.cells #[.string s, .int .i64 0, .int .i64 (-1)] 58))).drew.cell? ⟨w.heap.size + 3, j, none⟩).isSome = true := fun j hj => by
    unfold made
    rw [World.cell?_drew]
    have h := fun X Y Z => cellZ (((w.alloc X).alloc Y).alloc Z) (first L) j hj
    simp only [World.size_alloc] at h ⊢
    rw [h]; rfl
  have hf : ∀ a, w.heap.size ≤ a.block → (made w.heap.size L (first L) (w.alloc (.cells #[.string s, .int .i64 0, .int .i64 (-1)] 58))).drew.frozen? a = false := fun a ha => by
    show (made _ _ _ _).frozen? a = false
    unfold made
    rw [frozen?_alloc_cells, frozen?_alloc_cells, frozen?_alloc_cells, frozen?_alloc_cells]
    simp [World.frozen?, Array.getElem?_eq_none ha]
  have hgl : (made w.heap.size L (first L) (w.alloc (.cells #[.string s, .int .i64 0, .int .i64 (-1)] 58))).drew.cell? ⟨4, 0, none⟩ = some (EV pa) := by
    have hb := made_below w.heap.size L (first L) (w.alloc (.cells #[.string s, .int .i64 0, .int .i64 (-1)] 58)) w.heap.size (by simp)
    rw [hb.cell (p := ⟨4, 0, none⟩) (hB 4 h4), World.cell?_alloc_lt _ _ _ (hB 4 h4)]
    exact hg
  have hscn := made_scn w.heap.size L (first L) (w.alloc (.cells #[.string s, .int .i64 0, .int .i64 (-1)] 58))
  rw [World.size_alloc] at hscn
  have hmb := first_mb L h0
  generalize (made w.heap.size L (first L) (w.alloc (.cells #[.string s, .int .i64 0, .int .i64 (-1)] 58))).drew = W at *
  exact
    { r0 := hr 0, r1 := hr 1, r2 := hr 2, s0 := hsc 0, s1 := hsc 1, s2 := hsc 2, s3 := ⟨_, hsc 3⟩, s4 := hsc 4, s5 := hsc 5, s6 := hsc 6, s7 := hsc 7, s8 := ⟨_, hsc 8⟩, s9 := ⟨_, hsc 9⟩, s10 := hsc 10, g := hgl
      fr := fun o => hf _ (Nat.le_refl _)
      fs := fun o => hf _ (by show w.heap.size ≤ w.heap.size + 1; omega)
      ft := fun o => hf _ (by show w.heap.size ≤ w.heap.size + 2; omega)
      fb := fun o => hf _ (by show w.heap.size ≤ w.heap.size + 3; omega)
      scn := ⟨0, 0, hscn⟩
      row := by rw [Nat.sub_self, List.take_zero]; exact rowAt_nil _ _ _
      cap := hbuf
      le1 := Nat.le_refl _, le2 := Nat.zero_le _, lem := first_le L h0, pos := hp, mb := by omega
      le3 := Nat.zero_le _
      d4 := by show w.heap.size + 3 ≠ w.heap.size; omega
      d5 := by show w.heap.size + 3 ≠ w.heap.size + 1; omega
      d6 := by show w.heap.size + 3 ≠ w.heap.size + 2; omega
      b4 := fun h => by have : w.heap.size + 3 < w.heap.size := hB _ h; omega
      kp := fun k hk => by rw [hz]; have : k < w.heap.size := hB k hk; omega
      lt1 := by rw [hz]; show w.heap.size < w.heap.size + 4; omega
      lt2 := by rw [hz]; show w.heap.size + 1 < w.heap.size + 4; omega
      lt3 := by rw [hz]; show w.heap.size + 2 < w.heap.size + 4; omega
      lt4 := by rw [hz]; omega }

end Go.Proofs.Qxb6608719aDoor.Sk
