import Derived.Test.Qxb6601077aZz
import Derived.WalkKit
import Derived.ProofKit
import Derived.OpenShut
import Derived.ShutString
import Derived.ChangeOld
import Derived.WalkSmall
import Derived.Below
namespace Go.Proofs.Qxb6601077a.fnFourByteIndexDigitsDecode
open Go.ChangeShapes Go.WideShapes Go.ChangeAt Go.RowKit
open Go.ChangeMaps (open_string shut_string)
set_option linter.unusedVariables false

theorem own : ownKnob Try.prog.godebug = none := by kernel_rfl
theorem laidOut : laidOutB Try.prog = true := by kernel_rfl

/-- WHAT THE WALK IS TOLD OF A SLICE OF INTEGERS THAT CAME IN: it is nil; or it leads to a row of 'cap' cells, the numbers 'zs' (the first 'len' are its elements, the rest its spare room), each fitting its kind. -/
def IsRow (k : IntKind) (w : World) (a : Option Addr) (len cap : Nat) (zs : List Int) : Prop :=
  (a = none ∧ len = 0 ∧ cap = 0 ∧ zs = []) ∨
  ∃ x, a = some x ∧ len ≤ cap ∧ cap ≤ maxLen ∧ zs.length = cap ∧ (∀ i, i < zs.length → w.cell? (x.add i) = some (.int k (zs.getD i 0))) ∧ ∀ n ∈ zs, (Lit.int k n).wf = true

open Wk

/-- What the last test reckons with, in the walk's own spelling. -/
theorem idx_digits (c0 c1 c2 c3 : Int) (x1 : 129 ≤ c0) (y1 : c0 ≤ 254) (x2 : 48 ≤ c1) (y2 : c1 ≤ 57) (x3 : 129 ≤ c2) (y3 : c2 ≤ 254) (x4 : 48 ≤ c3) (y4 : c3 ≤ 57) :
    0 ≤ idx4 c0 c1 c2 c3 ∧ idx4 c0 c1 c2 c3 < 1587600 ∧ idx4 c0 c1 c2 c3 % 10 = c3 - 48 ∧ idx4 c0 c1 c2 c3 / 10 % 126 = c2 - 129 ∧ idx4 c0 c1 c2 c3 / 1260 % 10 = c1 - 48 ∧ idx4 c0 c1 c2 c3 / 12600 = c0 - 129 := by
  unfold idx4
  omega

theorem main_good (b off n cap : Nat) (zs : List Int) (w : World) (hz : zs.length = n) (h4 : 4 ≤ n) (hn : n ≤ 1048576)
    (hc : ∀ j, j < n → w.cell? ⟨b, off + j, none⟩ = some (.int .u8 (zs.getD j 0)))
    (hv : vfB (zs.getD 0 0) (zs.getD 1 0) (zs.getD 2 0) (zs.getD 3 0) = true) :
    Calls Try.prog 6 #[.slice (some ⟨b, off, none⟩) n cap] w fun e w' => e = .returned (.bool true) ∧ Below w.heap.size w w' := by
  have HC := hid (clone_any b off n cap zs w hz hn hc)
  clear hc
  obtain ⟨c0, e0⟩ : ∃ c, c = zs.getD 0 0 := ⟨_, rfl⟩
  obtain ⟨c1, e1⟩ : ∃ c, c = zs.getD 1 0 := ⟨_, rfl⟩
  obtain ⟨c2, e2⟩ : ∃ c, c = zs.getD 2 0 := ⟨_, rfl⟩
  obtain ⟨c3, e3⟩ : ∃ c, c = zs.getD 3 0 := ⟨_, rfl⟩
  rw [← e0, ← e1, ← e2, ← e3] at hv
  have E := hid (And.intro e0 (And.intro e1 (And.intro e2 e3)))
  clear e0 e1 e2 e3 hz
  have hv' := hv
  simp only [vfB, Bool.and_eq_true] at hv'
  obtain ⟨⟨⟨t1, t2⟩, t3⟩, t4⟩ := hv'
  obtain ⟨x1, y1⟩ := leadB_t t1
  obtain ⟨x2, y2⟩ := digB_t t2
  obtain ⟨x3, y3⟩ := leadB_t t3
  obtain ⟨x4, y4⟩ := digB_t t4
  clear t1 t2 t3 t4
  obtain ⟨i1, i2, i3, i4, i5, i6⟩ := idx_digits c0 c1 c2 c3 x1 y1 x2 y2 x3 y3 x4 y4
  obtain ⟨I, hI⟩ : ∃ I, I = idx4 c0 c1 c2 c3 := ⟨_, rfl⟩
  rw [← hI] at i1 i2 i3 i4 i5 i6
  have HI := hid hI
  clear hI
  have l0 : (0 : Int) < (n : Int) := by omega
  have l1 : (1 : Int) < (n : Int) := by omega
  have l2 : (2 : Int) < (n : Int) := by omega
  have l3 : (3 : Int) < (n : Int) := by omega
  have l4 : (4 : Int) ≤ (n : Int) := by omega
  go_enter Try.func6, Try.ntmps6
  go_wp2_with (first
    | (go_at_call 14; go_in)
    | (go_at_call 15; refine (Hid.out HC).mono ?_; rintro e w1 ⟨rfl, hown, hb1⟩; have q0 := own_cell hown 0 (by omega); have q1 := own_cell hown 1 (by omega); have q2 := own_cell hown 2 (by omega); have q3 := own_cell hown 3 (by omega); rw [← E.out.1] at q0; rw [← E.out.2.1] at q1; rw [← E.out.2.2.1] at q2; rw [← E.out.2.2.2] at q3; clear hown)
    | (go_at_call 16; refine (zz_good _ _ _ _ c0 c1 c2 c3 _ h4 q0 q1 q2 q3 hv).mono ?_; rintro e w2 ⟨rfl, k, rfl⟩; rw [← HI.out])
    | (go_at_call 17; refine (valid_any _ _ _ _ c0 c1 c2 c3 _ h4 (by exact q0) (by exact q1) (by exact q2) (by exact q3)).mono ?_; rintro e w2 ⟨rfl, rfl⟩))
  go_ret
  exact ⟨rfl, below_drewN hb1 _⟩

theorem main_bad (b off n cap : Nat) (zs : List Int) (w : World) (hz : zs.length = n) (h4 : 4 ≤ n) (hn : n ≤ 1048576)
    (hc : ∀ j, j < n → w.cell? ⟨b, off + j, none⟩ = some (.int .u8 (zs.getD j 0)))
    (hv : vfB (zs.getD 0 0) (zs.getD 1 0) (zs.getD 2 0) (zs.getD 3 0) = false) :
    Calls Try.prog 6 #[.slice (some ⟨b, off, none⟩) n cap] w fun e w' => e = .returned (.bool true) ∧ Below w.heap.size w w' := by
  have HC := hid (clone_any b off n cap zs w hz hn hc)
  clear hc
  obtain ⟨c0, e0⟩ : ∃ c, c = zs.getD 0 0 := ⟨_, rfl⟩
  obtain ⟨c1, e1⟩ : ∃ c, c = zs.getD 1 0 := ⟨_, rfl⟩
  obtain ⟨c2, e2⟩ : ∃ c, c = zs.getD 2 0 := ⟨_, rfl⟩
  obtain ⟨c3, e3⟩ : ∃ c, c = zs.getD 3 0 := ⟨_, rfl⟩
  rw [← e0, ← e1, ← e2, ← e3] at hv
  have E := hid (And.intro e0 (And.intro e1 (And.intro e2 e3)))
  clear e0 e1 e2 e3 hz
  have l4 : (4 : Int) ≤ (n : Int) := by omega
  go_enter Try.func6, Try.ntmps6
  go_wp2_with (first
    | (go_at_call 14; go_in)
    | (go_at_call 15; refine (Hid.out HC).mono ?_; rintro e w1 ⟨rfl, hown, hb1⟩; have q0 := own_cell hown 0 (by omega); have q1 := own_cell hown 1 (by omega); have q2 := own_cell hown 2 (by omega); have q3 := own_cell hown 3 (by omega); rw [← E.out.1] at q0; rw [← E.out.2.1] at q1; rw [← E.out.2.2.1] at q2; rw [← E.out.2.2.2] at q3; clear hown)
    | (go_at_call 16; refine (zz_bad _ _ _ _ c0 c1 c2 c3 _ h4 q0 q1 q2 q3 hv).mono ?_; rintro e w2 ⟨rfl, rfl⟩)
    | (go_at_call 17; refine (valid_any _ _ _ _ c0 c1 c2 c3 _ h4 (by exact q0) (by exact q1) (by exact q2) (by exact q3)).mono ?_; rintro e w2 ⟨rfl, rfl⟩))
  go_ret
  exact ⟨rfl, hb1⟩

/-- Fewer than four bytes (a nil slice too). -/
theorem main_short (a : Option Addr) (n cap : Nat) (w : World) (h4 : n < 4) :
    Calls Try.prog 6 #[.slice a n cap] w fun e w' => e = .returned (.bool true) ∧ Below w.heap.size w w' := by
  have l4 : (n : Int) < (4 : Int) := by omega
  go_enter Try.func6, Try.ntmps6
  go_wp2_with (go_at_call 14; go_in)
  go_ret
  exact ⟨rfl, Below.refl _ _⟩

/-- More than the law speaks of. -/
theorem main_long (a : Option Addr) (n cap : Nat) (w : World) (hm : n ≤ maxLen) (h4 : 1048576 < n) :
    Calls Try.prog 6 #[.slice a n cap] w fun e w' => e = .returned (.bool true) ∧ Below w.heap.size w w' := by
  unfold maxLen at hm
  have l4 : (1048576 : Int) < (n : Int) := by omega
  go_enter Try.func6, Try.ntmps6
  go_wp2_with (go_at_call 14; go_in)
  go_ret
  exact ⟨rfl, Below.refl _ _⟩

theorem walk (a0 : Option Addr) (len0 cap0 : Nat) (z0 : List Int) (w : World) (w0 : IsRow .u8 w a0 len0 cap0 z0) :
    Calls Try.prog 6 #[.slice a0 len0 cap0] w fun e w' => e = .returned (.bool true) ∧ Below w.heap.size w w' := by
  rcases w0 with ⟨rfl, rfl, rfl, rfl⟩ | ⟨x, rfl, hl, hm, hz, hcell, hwz⟩
  · exact main_short _ _ _ _ (by omega)
  by_cases h4 : len0 < 4
  · exact main_short _ _ _ _ h4
  by_cases hL : 1048576 < len0
  · exact main_long _ _ _ _ (by omega) hL
  obtain ⟨b, off, spot⟩ := x
  have hspot : spot = none := by simpa [Addr.add] using World.cell?_spot (hcell 0 (by omega))
  subst hspot
  have hc : ∀ j, j < len0 → w.cell? ⟨b, off + j, none⟩ = some (.int .u8 ((z0.take len0).getD j 0)) := fun j hj => by
    have := hcell j (by omega)
    rw [Addr.add_lit] at this
    rw [this]
    simp [List.getD, hj]
  cases hv : vfB ((z0.take len0).getD 0 0) ((z0.take len0).getD 1 0) ((z0.take len0).getD 2 0) ((z0.take len0).getD 3 0)
  · exact main_bad b off len0 cap0 (z0.take len0) w (by simp; omega) (by omega) (by omega) hc hv
  · exact main_good b off len0 cap0 (z0.take len0) w (by simp; omega) (by omega) (by omega) hc hv

/-! ### THE ROW's STEP: WRITTEN OUT: LEAVE IT -/
set_option maxRecDepth 100000 in
theorem lifted (os : Os) (started : os.Started) (H : Type) (enc : TypeId × Value → H) :
    ReturnsInHanded {} Try.checked os 6 .any (Rows.fnFourByteIndexDigitsDecodeSpec.pre6 enc Try.prog Try.f6 Rows.fnFourByteIndexDigitsDecodeRow.domain false) (Rows.fnFourByteIndexDigitsDecodeSpec.post enc Try.prog Try.f6 false true false false) := by
  refine returnsInHanded_of_change (C := Try.checked) own started (by kernel_rfl) Try.func6
    (ChangeSpec.witness6 (enc := enc) (C := Try.checked) false ⟨#[], #[.slice none 0 0], []⟩ 8 (by kernel_rfl) (by kernel_rfl) (by kernel_rfl) (by kernel_rfl)) ?_
  intro W base args ds gs before hval0 hW hcnd _
  have hval : ∀ (j : Nat) t v, Try.f6.params[j]? = some t → args[j]? = some v → Value.okWide Try.prog W .any base t v := hval0
  have hW' := hW
  obtain ⟨p, q, hA0, hV, rfl, hfz, hnd⟩ := hW
  have hA : DataW.TrodAll enc Try.prog W 0 (fun _ => true) true Try.f6.params.toList args.toList ds p := hA0
  rw [Try.params6] at hA hval
  obtain ⟨v0, vs0, d0, ds0, p0, q0, hargs, rfl, rfl, h0, r0⟩ := trodAll_cons hA
  obtain ⟨rfl, rfl, rfl⟩ := trodAll_nil r0
  obtain rfl : args = #[v0] := by cases args; simp_all
  obtain ⟨rfl, rfl⟩ := trodVars_none hV
  obtain ⟨a0, len0, cap0, rfl⟩ := okWide_slice Try.underlying28 (hval 0 28 v0 rfl rfl)
  have k0 := h0
  have lt0 : ∀ x ∈ p0, x.block < W.heap.size := by obtain ⟨m, hm⟩ := k0; exact DataW.trod_lt m _ _ _ hm
  obtain ⟨z0, w0⟩ : ∃ zs, IsRow .u8 W a0 len0 cap0 zs := by
    obtain ⟨fuel, hf⟩ := h0
    rcases open_ints Try.underlying28 Try.underlying5 (by kernel_rfl) hf with ⟨hcs, _⟩ | ⟨x, l, c, zs, hcs, _, hl, hm, hz, _, hcell, hwz⟩
    · simp [Value.cells] at hcs
      obtain ⟨rfl, rfl, rfl⟩ := hcs
      exact ⟨[], .inl ⟨rfl, rfl, rfl, rfl⟩⟩
    · simp [Value.cells] at hcs
      obtain ⟨rfl, rfl, rfl⟩ := hcs
      exact ⟨zs, .inr ⟨_, rfl, hl, hm, by simpa using hz, hcell, hwz⟩⟩
  clear hA0 hval0
  refine (walk a0 len0 cap0 z0 W w0).mono fun e W' ⟨he, bel⟩ => ?_
  subst he
  exact ⟨_, rfl, _, _, _, [], _, [], hW', trodAll_mk1 (shut_bool Try.underlying4 _), (trodAll_cons_mk (Below.trod laidOut (by kernel_rfl) (of_decide_eq_true (by kernel_rfl)) k0 bel lt0) trodAll_mk0), rfl, bel.frame _, fun h => by cases h⟩

theorem over : Rows.fnFourByteIndexDigitsDecodeRow.holds Try.pinned (OpenSpec.ofChange Rows.fnFourByteIndexDigitsDecodeSpec) :=
  OpenClaim.holds_of_wide 6 Try.f6 rfl rfl rfl rfl rfl rfl rfl ⟨rfl, rfl, rfl, rfl, rfl⟩ rfl rfl rfl rfl rfl (by kernel_rfl) Try.func6 (by kernel_rfl)
    (of_decide_eq_true (by kernel_rfl)) (by unfold Func.isWrapper; first | (rw [if_pos (by decide +kernel)]; kernel_rfl) | (rw [if_neg (by decide +kernel)]; exact ⟨rfl, rfl⟩))
    (fun os started H enc _ => lifted os started H enc)

/-- ████ THE STATEMENT ████ -/
theorem proved : Rows.FnFourByteIndexDigitsDecodeSaid := over
#print axioms proved
end Go.Proofs.Qxb6601077a.fnFourByteIndexDigitsDecode
