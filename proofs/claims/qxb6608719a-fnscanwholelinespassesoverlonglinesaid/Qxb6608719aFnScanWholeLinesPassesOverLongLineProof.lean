/-
  THE PROOF OF 'Rows.FnScanWholeLinesPassesOverLongLineSaid': the frame is the guide's (proof-skeleton.mjs); the walk is Qxb6608719aLong's.
-/
import Derived.Test.Qxb6608719aRows
import Derived.WalkKit
import Derived.ProofKit
import Derived.OpenShut
import Derived.ShutString
import Derived.ChangeOld
import Derived.Below
import Derived.Test.Qxb6608719aLong5
namespace Go.Proofs.Qxb6608719a.fnScanWholeLinesPassesOverLongLine
open Go.ChangeShapes Go.WideShapes Go.ChangeAt Go.RowKit
open Go.ChangeMaps (open_string shut_string)
set_option linter.unusedVariables false

theorem own : ownKnob Try.prog.godebug = none := by kernel_rfl
theorem laidOut : laidOutB Try.prog = true := by kernel_rfl

/-- WHAT THE WALK IS TOLD OF A SLICE OF INTEGERS THAT CAME IN: it is nil; or it leads to a row of 'cap' cells, the numbers 'zs' (the first 'len' are its elements, the rest its spare room), each fitting its kind. -/
def IsRow (k : IntKind) (w : World) (a : Option Addr) (len cap : Nat) (zs : List Int) : Prop :=
  (a = none ∧ len = 0 ∧ cap = 0 ∧ zs = []) ∨
  ∃ x, a = some x ∧ len ≤ cap ∧ cap ≤ maxLen ∧ zs.length = cap ∧ (∀ i, i < zs.length → w.cell? (x.add i) = some (.int k (zs.getD i 0))) ∧ ∀ n ∈ zs, (Lit.int k n).wf = true

theorem inc_of {w : World} {a : Option Addr} {len cap : Nat} {zs : List Int} (h : IsRow .u8 w a len cap zs) : len ≤ maxLen ∧ ∃ l, Ln.Inc w a len l := by
  rcases h with ⟨rfl, rfl, rfl, rfl⟩ | ⟨x, rfl, hl, hm, hz, hcell, hwf⟩
  · exact ⟨Nat.zero_le _, [], rfl, fun _ => rfl, fun x hx => by cases hx⟩
  · refine ⟨Nat.le_trans hl hm, (zs.take len).map (fun n => UInt8.ofNat n.toNat), ?_, (fun e => by cases e), ?_⟩
    · rw [List.length_map, List.length_take]; omega
    · intro y hy h0
      injection hy with hy
      subst hy
      obtain ⟨b, o, rfl, hc⟩ := ints_at hcell (by omega)
      refine ⟨b, o, rfl, fun i hi => ?_⟩
      rw [List.length_map, List.length_take] at hi
      have hi' : i < zs.length := by omega
      rw [hc i hi']
      have hb := bounds_u8 (hwf (zs.getD i 0) (by rw [List.getD, List.getElem?_eq_getElem hi']; exact List.getElem_mem hi'))
      have e : ((zs.take len).map (fun n => UInt8.ofNat n.toNat)).getD i 0 = UInt8.ofNat (zs.getD i 0).toNat := by
        simp [List.getD, show i < len by omega, List.getElem?_eq_getElem hi']
      rw [e]
      generalize zs.getD i 0 = z at hb
      obtain ⟨n, rfl⟩ := Int.eq_ofNat_of_zero_le hb.1
      have : (UInt8.ofNat n).toNat = n := by
        rw [UInt8.toNat_ofNat']
        exact Nat.mod_eq_of_lt (by omega)
      rw [Int.toNat_natCast, this]

/-! ### STEP 1: THE WALK: the Go text returns true, AND WRITES NOTHING THAT WAS THERE: 'Below w.heap.size w w'' (Derived/Below.lean: '.refl', '.alloc', '.drew', '.setCell' at a new block, '.trans'). Open each 'IsRow' by 'rcases' AHEAD of 'go_enter'; part every test ahead of the walk. -/
theorem walk (a0 : Int) (a1 : Option Addr) (len1 cap1 : Nat) (z1 : List Int) (a2 : Option Addr) (len2 cap2 : Nat) (z2 : List Int) (w : World) (w0 : (Lit.int .i64 a0).wf = true) (w1 : IsRow .u8 w a1 len1 cap1 z1) (w2 : IsRow .u8 w a2 len2 cap2 z2) :
    Calls Try.prog 3 #[.int .i64 a0, .slice a1 len1 cap1, .slice a2 len2 cap2] w fun e w' => e = .returned (.bool true) ∧ Below w.heap.size w w' := by
  obtain ⟨m1, la, ha⟩ := inc_of w1
  obtain ⟨m2, lb, hb⟩ := inc_of w2
  have nil1 : a1 = none → cap1 = 0 := by
    intro e
    rcases w1 with ⟨_, _, h, _⟩ | ⟨x, h, _⟩
    · exact h
    · rw [e] at h; cases h
  have nil2 : a2 = none → cap2 = 0 := by
    intro e
    rcases w2 with ⟨_, _, h, _⟩ | ⟨x, h, _⟩
    · exact h
    · rw [e] at h; cases h
  rcases Nat.lt_or_ge 1048576 (len1 + len2) with g | g
  · exact Ln.far a0 a1 a2 len1 len2 cap1 cap2 w m1 m2 g
  by_cases hL : a0 < 0 ∨ 9223372036854775807 ≤ a0
  · exact Ln.out a0 a1 a2 len1 len2 cap1 cap2 w g hL
  have h0 : 0 ≤ a0 := by omega
  have h1 : a0 < 9223372036854775807 := by omega
  rcases Plain.nl_cases la with hna | ⟨i, hi⟩
  · rcases Plain.nl_cases lb with hnb | ⟨i, hi⟩
    · cases a1 with
      | none =>
        have e1 := ha.nil rfl
        have e2 := nil1 rfl
        subst e1 e2
        cases a2 with
        | none =>
          have e1 := hb.nil rfl
          have e2 := nil2 rfl
          subst e1 e2
          exact Ln.noline_ab a0 w h0 h1
        | some y => exact Ln.noline_a a0 y len2 cap2 lb w g h0 h1 hb hnb
      | some x =>
        cases a2 with
        | none =>
          have e1 := hb.nil rfl
          have e2 := nil2 rfl
          subst e1 e2
          exact Ln.noline_b a0 x len1 cap1 la w g h0 h1 ha hna
        | some y => exact Ln.noline a0 x y len1 len2 cap1 cap2 la lb w g h0 h1 ha hb hna hnb
    · cases a2 with
      | none =>
        have := hb.nil rfl
        have hlt := hi.lt
        rw [hb.len] at hlt
        omega
      | some y =>
        have hlt := hi.lt
        rw [hb.len] at hlt
        have hrest : len2 = i + 1 ∨ (i + 1 < len2 ∧ Plain.NoNl (lb.drop (i + 1))) ∨ ∃ j, Plain.NlAt (lb.drop (i + 1)) j := by
          by_cases e : len2 = i + 1
          · exact .inl e
          · rcases Plain.nl_cases (lb.drop (i + 1)) with h | h
            · exact .inr (.inl ⟨by omega, h⟩)
            · exact .inr (.inr h)
        cases a1 with
        | none =>
          have e1 := ha.nil rfl
          exact Ln.mainN a0 y len1 len2 cap1 cap2 i la lb w g h0 (by omega) h1 ha hb hna hi hrest
        | some x =>
          by_cases hl : a0 < (len1 : Int)
          · exact Ln.mainP a0 x y len1 len2 cap1 cap2 i la lb w g h0 hl h1 ha hb hna hi hrest
          · exact Ln.mainW a0 x y len1 len2 cap1 cap2 i la lb w g h0 hl h1 ha hb hna hi hrest
  · exact Ln.aline a0 a1 a2 len1 len2 cap1 cap2 i la w g h0 h1 ha hi

/-! ### THE ROW's STEP: WRITTEN OUT: LEAVE IT -/
set_option maxRecDepth 100000 in
theorem lifted (os : Os) (started : os.Started) (H : Type) (enc : TypeId × Value → H) :
    ReturnsInHanded {} Try.checked os 3 .any (Rows.fnScanWholeLinesPassesOverLongLineSpec.pre6 enc Try.prog Try.f3 Rows.fnScanWholeLinesPassesOverLongLineRow.domain false) (Rows.fnScanWholeLinesPassesOverLongLineSpec.post enc Try.prog Try.f3 false true false false) := by
  refine returnsInHanded_of_change (C := Try.checked) own started (by kernel_rfl) Try.func3
    (ChangeSpec.witness6 (enc := enc) (C := Try.checked) false ⟨#[], #[.int .i64 0, .slice none 0 0, .slice none 0 0], []⟩ 8 (by kernel_rfl) (by kernel_rfl) (by kernel_rfl) (by kernel_rfl)) ?_
  intro W base args ds gs before hval0 hW hcnd _
  have hval : ∀ (j : Nat) t v, Try.f3.params[j]? = some t → args[j]? = some v → Value.okWide Try.prog W .any base t v := hval0
  have hW' := hW
  obtain ⟨p, q, hA0, hV, rfl, hfz, hnd⟩ := hW
  have hA : DataW.TrodAll enc Try.prog W 0 (fun _ => true) true Try.f3.params.toList args.toList ds p := hA0
  rw [Try.params3] at hA hval
  obtain ⟨v0, vs0, d0, ds0, p0, q0, hargs, rfl, rfl, h0, r0⟩ := trodAll_cons hA
  obtain ⟨v1, vs1, d1, ds1, p1, q1, rfl, rfl, rfl, h1, r1⟩ := trodAll_cons r0
  obtain ⟨v2, vs2, d2, ds2, p2, q2, rfl, rfl, rfl, h2, r2⟩ := trodAll_cons r1
  obtain ⟨rfl, rfl, rfl⟩ := trodAll_nil r2
  obtain rfl : args = #[v0, v1, v2] := by cases args; simp_all
  obtain ⟨rfl, rfl⟩ := trodVars_none hV
  obtain ⟨a0, rfl, rfl, rfl, w0⟩ := open_int Try.underlying3 (hval 0 3 v0 rfl rfl) h0
  obtain ⟨a1, len1, cap1, rfl⟩ := okWide_slice Try.underlying22 (hval 1 22 v1 rfl rfl)
  have k1 := h1
  have lt1 : ∀ x ∈ p1, x.block < W.heap.size := by obtain ⟨m, hm⟩ := k1; exact DataW.trod_lt m _ _ _ hm
  obtain ⟨z1, w1⟩ : ∃ zs, IsRow .u8 W a1 len1 cap1 zs := by
    obtain ⟨fuel, hf⟩ := h1
    rcases open_ints Try.underlying22 Try.underlying5 (by kernel_rfl) hf with ⟨hcs, _⟩ | ⟨x, l, c, zs, hcs, _, hl, hm, hz, _, hcell, hwz⟩
    · simp [Value.cells] at hcs
      obtain ⟨rfl, rfl, rfl⟩ := hcs
      exact ⟨[], .inl ⟨rfl, rfl, rfl, rfl⟩⟩
    · simp [Value.cells] at hcs
      obtain ⟨rfl, rfl, rfl⟩ := hcs
      exact ⟨zs, .inr ⟨_, rfl, hl, hm, by simpa using hz, hcell, hwz⟩⟩
  obtain ⟨a2, len2, cap2, rfl⟩ := okWide_slice Try.underlying22 (hval 2 22 v2 rfl rfl)
  have k2 := h2
  have lt2 : ∀ x ∈ p2, x.block < W.heap.size := by obtain ⟨m, hm⟩ := k2; exact DataW.trod_lt m _ _ _ hm
  obtain ⟨z2, w2⟩ : ∃ zs, IsRow .u8 W a2 len2 cap2 zs := by
    obtain ⟨fuel, hf⟩ := h2
    rcases open_ints Try.underlying22 Try.underlying5 (by kernel_rfl) hf with ⟨hcs, _⟩ | ⟨x, l, c, zs, hcs, _, hl, hm, hz, _, hcell, hwz⟩
    · simp [Value.cells] at hcs
      obtain ⟨rfl, rfl, rfl⟩ := hcs
      exact ⟨[], .inl ⟨rfl, rfl, rfl, rfl⟩⟩
    · simp [Value.cells] at hcs
      obtain ⟨rfl, rfl, rfl⟩ := hcs
      exact ⟨zs, .inr ⟨_, rfl, hl, hm, by simpa using hz, hcell, hwz⟩⟩
  clear hA0 hval0
  refine (walk a0 a1 len1 cap1 z1 a2 len2 cap2 z2 W w0 w1 w2).mono fun e W' ⟨he, bel⟩ => ?_
  subst he
  exact ⟨_, rfl, _, _, _, [], _, [], hW', trodAll_mk1 (shut_bool Try.underlying4 _), (trodAll_cons_mk (shut_int Try.underlying3 w0) (trodAll_cons_mk (Below.trod laidOut (by kernel_rfl) (of_decide_eq_true (by kernel_rfl)) k1 bel lt1) (trodAll_cons_mk (Below.trod laidOut (by kernel_rfl) (of_decide_eq_true (by kernel_rfl)) k2 bel lt2) trodAll_mk0))), rfl, bel.frame _, fun h => by cases h⟩

theorem over : Rows.fnScanWholeLinesPassesOverLongLineRow.holds Try.pinned (OpenSpec.ofChange Rows.fnScanWholeLinesPassesOverLongLineSpec) :=
  OpenClaim.holds_of_wide 3 Try.f3 rfl rfl rfl rfl rfl rfl rfl ⟨rfl, rfl, rfl, rfl, rfl⟩ rfl rfl rfl rfl rfl (by kernel_rfl) Try.func3 (by kernel_rfl)
    (of_decide_eq_true (by kernel_rfl)) (by unfold Func.isWrapper; first | (rw [if_pos (by decide +kernel)]; kernel_rfl) | (rw [if_neg (by decide +kernel)]; exact ⟨rfl, rfl⟩))
    (fun os started H enc _ => lifted os started H enc)

/-- ████ THE STATEMENT ████ -/
theorem proved : Rows.FnScanWholeLinesPassesOverLongLineSaid := over
#print axioms proved
end Go.Proofs.Qxb6608719a.fnScanWholeLinesPassesOverLongLine
