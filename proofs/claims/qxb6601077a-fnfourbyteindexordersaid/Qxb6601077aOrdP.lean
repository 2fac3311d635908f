import Derived.Test.Qxb6601077aOrd
import Derived.WalkKit
import Derived.ProofKit
import Derived.OpenShut
import Derived.ShutString
import Derived.ChangeOld
import Derived.Below
namespace Go.Proofs.Qxb6601077a.fnFourByteIndexOrder
open Go.ChangeShapes Go.WideShapes Go.ChangeAt Go.RowKit
open Go.ChangeMaps (open_string shut_string)
set_option linter.unusedVariables false

theorem own : ownKnob Try.prog.godebug = none := by kernel_rfl
theorem laidOut : laidOutB Try.prog = true := by kernel_rfl

/-- WHAT THE WALK IS TOLD OF A SLICE OF INTEGERS THAT CAME IN: it is nil; or it leads to a row of 'cap' cells, the numbers 'zs' (the first 'len' are its elements, the rest its spare room), each fitting its kind. -/
def IsRow (k : IntKind) (w : World) (a : Option Addr) (len cap : Nat) (zs : List Int) : Prop :=
  (a = none ∧ len = 0 ∧ cap = 0 ∧ zs = []) ∨
  ∃ x, a = some x ∧ len ≤ cap ∧ cap ≤ maxLen ∧ zs.length = cap ∧ (∀ i, i < zs.length → w.cell? (x.add i) = some (.int k (zs.getD i 0))) ∧ ∀ n ∈ zs, (Lit.int k n).wf = true

open Wk

/-- Both are long enough, and one is no code. -/
theorem ord_bad (b1 o1 b2 o2 n1 p1 n2 p2 : Nat) (zs ys : List Int) (w : World) (h1 : 4 ≤ n1) (h2 : 4 ≤ n2) (m1 : n1 ≤ 524288) (m2 : n2 ≤ 524288)
    (hc1 : ∀ j, j < n1 → w.cell? ⟨b1, o1 + j, none⟩ = some (.int .u8 (zs.getD j 0))) (hc2 : ∀ j, j < n2 → w.cell? ⟨b2, o2 + j, none⟩ = some (.int .u8 (ys.getD j 0)))
    (hv : vfB (zs.getD 0 0) (zs.getD 1 0) (zs.getD 2 0) (zs.getD 3 0) = false ∨ vfB (ys.getD 0 0) (ys.getD 1 0) (ys.getD 2 0) (ys.getD 3 0) = false) :
    Calls Try.prog 7 #[.slice (some ⟨b1, o1, none⟩) n1 p1, .slice (some ⟨b2, o2, none⟩) n2 p2] w fun e w' => e = .returned (.bool true) ∧ Below w.heap.size w w' := by
  have V1 := hid (valid_any b1 o1 n1 p1 _ _ _ _ w h1 (hc1 0 (by omega)) (hc1 1 (by omega)) (hc1 2 (by omega)) (hc1 3 (by omega)))
  have V2 := hid (valid_any b2 o2 n2 p2 _ _ _ _ w h2 (hc2 0 (by omega)) (hc2 1 (by omega)) (hc2 2 (by omega)) (hc2 3 (by omega)))
  obtain ⟨v1, e1⟩ : ∃ v, v = vfB (zs.getD 0 0) (zs.getD 1 0) (zs.getD 2 0) (zs.getD 3 0) := ⟨_, rfl⟩
  obtain ⟨v2, e2⟩ : ∃ v, v = vfB (ys.getD 0 0) (ys.getD 1 0) (ys.getD 2 0) (ys.getD 3 0) := ⟨_, rfl⟩
  rw [← e1, ← e2] at hv
  rw [← e1] at V1
  rw [← e2] at V2
  clear hc1 hc2 e1 e2
  have y1 : (4 : Int) ≤ (n1 : Int) := by omega
  have y2 : (4 : Int) ≤ (n2 : Int) := by omega
  cases v1
  · clear hv V2
    go_enter Try.func7, Try.ntmps7
    go_wp2_with (first | (go_at_call 18; go_in) | (go_at_call 17; refine (Hid.out V1).mono ?_; rintro e w' ⟨rfl, rfl⟩))
    go_ret
    exact ⟨rfl, Below.refl _ _⟩
  · obtain rfl : v2 = false := by simpa using hv
    clear hv
    go_enter Try.func7, Try.ntmps7
    go_wp2_with (go_at_call 18; go_in)
    refine (Hid.out V1).mono ?_
    rintro e w' ⟨rfl, rfl⟩
    go_wp2_with fail
    refine (Hid.out V2).mono ?_
    rintro e w' ⟨rfl, rfl⟩
    go_wp2
    go_ret
    exact ⟨rfl, Below.refl _ _⟩

theorem ord_good (b1 o1 b2 o2 n1 p1 n2 p2 : Nat) (zs ys : List Int) (w : World) (hz : zs.length = n1) (hy : ys.length = n2) (h1 : 4 ≤ n1) (h2 : 4 ≤ n2) (m1 : n1 ≤ 524288) (m2 : n2 ≤ 524288)
    (hc1 : ∀ j, j < n1 → w.cell? ⟨b1, o1 + j, none⟩ = some (.int .u8 (zs.getD j 0))) (hc2 : ∀ j, j < n2 → w.cell? ⟨b2, o2 + j, none⟩ = some (.int .u8 (ys.getD j 0)))
    (hv1 : vfB (zs.getD 0 0) (zs.getD 1 0) (zs.getD 2 0) (zs.getD 3 0) = true) (hv2 : vfB (ys.getD 0 0) (ys.getD 1 0) (ys.getD 2 0) (ys.getD 3 0) = true) (I J c : Int)
    (hI : I = idx4 (zs.getD 0 0) (zs.getD 1 0) (zs.getD 2 0) (zs.getD 3 0)) (hJ : J = idx4 (ys.getD 0 0) (ys.getD 1 0) (ys.getD 2 0) (ys.getD 3 0)) (hc : cmpFrom zs ys 0 4 = c)
    (hcc : (c = -1 ∧ I < J) ∨ (c = 0 ∧ I = J) ∨ (c = 1 ∧ J < I)) :
    Calls Try.prog 7 #[.slice (some ⟨b1, o1, none⟩) n1 p1, .slice (some ⟨b2, o2, none⟩) n2 p2] w fun e w' => e = .returned (.bool true) ∧ Below w.heap.size w w' := by
  have V1 := hid (valid_any b1 o1 n1 p1 _ _ _ _ w h1 (hc1 0 (by omega)) (hc1 1 (by omega)) (hc1 2 (by omega)) (hc1 3 (by omega)))
  have V2 := hid (valid_any b2 o2 n2 p2 _ _ _ _ w h2 (hc2 0 (by omega)) (hc2 1 (by omega)) (hc2 2 (by omega)) (hc2 3 (by omega)))
  rw [hv1] at V1
  rw [hv2] at V2
  have L1 := hid (clone_any b1 o1 n1 p1 zs w hz (by omega) hc1)
  have lt2 : b2 < w.heap.size := World.block_lt_of_cell? w _ (hc2 0 (by omega))
  have L2 := hid fun (w1 : World) (hb : Below w.heap.size w w1) => clone_any b2 o2 n2 p2 ys w1 hy (by omega) (fun j hj => (hb.cell (p := ⟨b2, o2 + j, none⟩) lt2).trans (hc2 j hj))
  -- the two clones read as the codes
  have Z1 := hid fun (w2 : World) (g : Nat) (q : ∀ j, j < n1 → w2.cell? ⟨g, j, none⟩ = some (.int .u8 (zs.getD j 0))) => zz_good g 0 n1 n1 _ _ _ _ w2 h1 (q 0 (by omega)) (q 1 (by omega)) (q 2 (by omega)) (q 3 (by omega)) hv1
  have Z2 := hid fun (w2 : World) (g : Nat) (q : ∀ j, j < n2 → w2.cell? ⟨g, j, none⟩ = some (.int .u8 (ys.getD j 0))) => zz_good g 0 n2 n2 _ _ _ _ w2 h2 (q 0 (by omega)) (q 1 (by omega)) (q 2 (by omega)) (q 3 (by omega)) hv2
  rw [← hI] at Z1
  rw [← hJ] at Z2
  have CM := hid fun (w2 : World) (g1 g2 : Nat) (q1 : ∀ j, j < n1 → w2.cell? ⟨g1, j, none⟩ = some (.int .u8 (zs.getD j 0))) (q2 : ∀ j, j < n2 → w2.cell? ⟨g2, j, none⟩ = some (.int .u8 (ys.getD j 0))) => cmp_any g1 g2 n1 n2 n1 n2 zs ys w2 h1 h2 (fun j hj => q1 j (by omega)) (fun j hj => q2 j (by omega))
  rw [hc] at CM
  clear hI hJ hc hv1 hv2 hc1 hc2 hz hy lt2
  have y1 : (4 : Int) ≤ (n1 : Int) := by omega
  have y2 : (4 : Int) ≤ (n2 : Int) := by omega
  have HCC := hid hcc
  clear hcc
  go_enter Try.func7, Try.ntmps7
  go_wp2_with (go_at_call 18; go_in)
  refine (Hid.out V1).mono ?_
  rintro e w' ⟨rfl, rfl⟩
  go_wp2_with fail
  refine (Hid.out V2).mono ?_
  rintro e w' ⟨rfl, rfl⟩
  go_wp2_with fail
  refine (Hid.out L1).mono ?_
  rintro e w1 ⟨rfl, hown1, hb1⟩
  have q1 := hid (own_cell hown1)
  have lt1 := (hown1.lt _ rfl).2
  clear hown1
  go_wp2_with fail
  refine (Hid.out L2 w1 hb1).mono ?_
  rintro e w2 ⟨rfl, hown2, hb2⟩
  have q2 := hid (own_cell hown2)
  clear hown2
  have q1' := hid fun (j : Nat) (hj : j < n1) => (hb2.cell (p := ⟨w'.heap.size, j, none⟩) lt1).trans (q1.out j hj)
  have hbw : Below w'.heap.size w' w2 := hb1.trans (hb2.mono (by omega))
  clear q1
  go_wp2_with fail
  refine (Hid.out Z1 _ _ (by exact q1'.out)).mono ?_
  rintro e w3 ⟨rfl, k, rfl⟩
  go_wp2_with fail
  refine (Hid.out Z2 _ _ (by exact q2.out)).mono ?_
  rintro e w3 ⟨rfl, k', rfl⟩
  go_wp2_with fail
  refine (Hid.out CM _ _ _ (by exact q1'.out) (by exact q2.out)).mono ?_
  rintro e w3 ⟨rfl, k2, rfl⟩
  rcases HCC.out with ⟨rfl, hlt⟩ | ⟨rfl, rfl⟩ | ⟨rfl, hlt⟩
  · have hne : (I == J) = false := by simp; omega
    go_wp2
    go_ret
    exact ⟨rfl, below_drewN hbw _⟩
  · go_wp2
    go_ret
    exact ⟨rfl, below_drewN hbw _⟩
  · have hne : (I == J) = false := by simp; omega
    have hnl : decide (I < J) = false := by simp; omega
    go_wp2
    go_ret
    exact ⟨rfl, below_drewN hbw _⟩

theorem walk (a0 : Option Addr) (len0 cap0 : Nat) (z0 : List Int) (a1 : Option Addr) (len1 cap1 : Nat) (z1 : List Int) (w : World) (w0 : IsRow .u8 w a0 len0 cap0 z0) (w1 : IsRow .u8 w a1 len1 cap1 z1) :
    Calls Try.prog 7 #[.slice a0 len0 cap0, .slice a1 len1 cap1] w fun e w' => e = .returned (.bool true) ∧ Below w.heap.size w w' := by
  have k0 : len0 ≤ maxLen := by rcases w0 with ⟨_, rfl, _⟩ | ⟨_, _, _, _, _⟩ <;> omega
  have k1 : len1 ≤ maxLen := by rcases w1 with ⟨_, rfl, _⟩ | ⟨_, _, _, _, _⟩ <;> omega
  by_cases hE : 524288 < len0 ∨ 524288 < len1 ∨ len0 < 4 ∨ len1 < 4
  · exact ord_early _ _ _ _ _ _ _ k0 k1 hE
  rcases w0 with ⟨rfl, rfl, rfl, rfl⟩ | ⟨x, rfl, hl, hm, hz, hcell, hwz⟩
  · omega
  rcases w1 with ⟨rfl, rfl, rfl, rfl⟩ | ⟨x', rfl, hl', hm', hz', hcell', hwz'⟩
  · omega
  obtain ⟨b, off, spot⟩ := x
  have hspot : spot = none := by simpa [Addr.add] using World.cell?_spot (hcell 0 (by omega))
  subst hspot
  obtain ⟨b', off', spot'⟩ := x'
  have hspot' : spot' = none := by simpa [Addr.add] using World.cell?_spot (hcell' 0 (by omega))
  subst hspot'
  have hc : ∀ j, j < len0 → w.cell? ⟨b, off + j, none⟩ = some (.int .u8 ((z0.take len0).getD j 0)) := fun j hj => by
    have := hcell j (by omega)
    rw [Addr.add_lit] at this
    rw [this]
    simp [List.getD, hj]
  have hc' : ∀ j, j < len1 → w.cell? ⟨b', off' + j, none⟩ = some (.int .u8 ((z1.take len1).getD j 0)) := fun j hj => by
    have := hcell' j (by omega)
    rw [Addr.add_lit] at this
    rw [this]
    simp [List.getD, hj]
  by_cases hv : vfB ((z0.take len0).getD 0 0) ((z0.take len0).getD 1 0) ((z0.take len0).getD 2 0) ((z0.take len0).getD 3 0) = false ∨ vfB ((z1.take len1).getD 0 0) ((z1.take len1).getD 1 0) ((z1.take len1).getD 2 0) ((z1.take len1).getD 3 0) = false
  · exact ord_bad b off b' off' len0 cap0 len1 cap1 (z0.take len0) (z1.take len1) w (by omega) (by omega) (by omega) (by omega) hc hc' hv
  · simp only [not_or, Bool.not_eq_false] at hv
    exact ord_good b off b' off' len0 cap0 len1 cap1 (z0.take len0) (z1.take len1) w (by simp; omega) (by simp; omega) (by omega) (by omega) (by omega) (by omega) hc hc' hv.1 hv.2 _ _ _ rfl rfl rfl (order _ _ hv.1 hv.2)

/-! ### THE ROW's STEP: WRITTEN OUT: LEAVE IT -/
set_option maxRecDepth 100000 in
theorem lifted (os : Os) (started : os.Started) (H : Type) (enc : TypeId × Value → H) :
    ReturnsInHanded {} Try.checked os 7 .any (Rows.fnFourByteIndexOrderSpec.pre6 enc Try.prog Try.f7 Rows.fnFourByteIndexOrderRow.domain false) (Rows.fnFourByteIndexOrderSpec.post enc Try.prog Try.f7 false true false false) := by
  refine returnsInHanded_of_change (C := Try.checked) own started (by kernel_rfl) Try.func7
    (ChangeSpec.witness6 (enc := enc) (C := Try.checked) false ⟨#[], #[.slice none 0 0, .slice none 0 0], []⟩ 8 (by kernel_rfl) (by kernel_rfl) (by kernel_rfl) (by kernel_rfl)) ?_
  intro W base args ds gs before hval0 hW hcnd _
  have hval : ∀ (j : Nat) t v, Try.f7.params[j]? = some t → args[j]? = some v → Value.okWide Try.prog W .any base t v := hval0
  have hW' := hW
  obtain ⟨p, q, hA0, hV, rfl, hfz, hnd⟩ := hW
  have hA : DataW.TrodAll enc Try.prog W 0 (fun _ => true) true Try.f7.params.toList args.toList ds p := hA0
  rw [Try.params7] at hA hval
  obtain ⟨v0, vs0, d0, ds0, p0, q0, hargs, rfl, rfl, h0, r0⟩ := trodAll_cons hA
  obtain ⟨v1, vs1, d1, ds1, p1, q1, rfl, rfl, rfl, h1, r1⟩ := trodAll_cons r0
  obtain ⟨rfl, rfl, rfl⟩ := trodAll_nil r1
  obtain rfl : args = #[v0, v1] := by cases args; simp_all
  obtain ⟨rfl, rfl⟩ := trodVars_none hV
  obtain ⟨a0, len0, cap0, rfl⟩ := okWide_slice Try.underlying28 (hval 0 28 v0 rfl rfl)
  have k0 := h0
  have lt0 : ∀ x ∈ p0, x.block < W.heap.size := by obtain ⟨m, hm⟩ := k0; exact DataW.trod_lt m _ _ _ hm
  obtain ⟨z0, w0⟩ : ∃ zs, IsRow .u8 W a0 len0 cap0 zs := by
    obtain ⟨fuel, hf⟩ := h0
    rcases open_ints Try.underlying28 Try.underlying5 (by kernel_rfl) hf with ⟨hcs, _⟩ | ⟨x, l, c, zs, hcs, _, hl, hm, hz, _, hcell, hwz⟩
    · simp [Value.cells] at hcs
      obtain ⟨rfl, rfl, rfl⟩ := hcs
      exact ⟨[], .inl ⟨rfl, rfl, rfl, rfl⟩⟩
    · simp [Value.cells] at hcs
      obtain ⟨rfl, rfl, rfl⟩ := hcs
      exact ⟨zs, .inr ⟨_, rfl, hl, hm, by simpa using hz, hcell, hwz⟩⟩
  obtain ⟨a1, len1, cap1, rfl⟩ := okWide_slice Try.underlying28 (hval 1 28 v1 rfl rfl)
  have k1 := h1
  have lt1 : ∀ x ∈ p1, x.block < W.heap.size := by obtain ⟨m, hm⟩ := k1; exact DataW.trod_lt m _ _ _ hm
  obtain ⟨z1, w1⟩ : ∃ zs, IsRow .u8 W a1 len1 cap1 zs := by
    obtain ⟨fuel, hf⟩ := h1
    rcases open_ints Try.underlying28 Try.underlying5 (by kernel_rfl) hf with ⟨hcs, _⟩ | ⟨x, l, c, zs, hcs, _, hl, hm, hz, _, hcell, hwz⟩
    · simp [Value.cells] at hcs
      obtain ⟨rfl, rfl, rfl⟩ := hcs
      exact ⟨[], .inl ⟨rfl, rfl, rfl, rfl⟩⟩
    · simp [Value.cells] at hcs
      obtain ⟨rfl, rfl, rfl⟩ := hcs
      exact ⟨zs, .inr ⟨_, rfl, hl, hm, by simpa using hz, hcell, hwz⟩⟩
  clear hA0 hval0
  refine (walk a0 len0 cap0 z0 a1 len1 cap1 z1 W w0 w1).mono fun e W' ⟨he, bel⟩ => ?_
  subst he
  exact ⟨_, rfl, _, _, _, [], _, [], hW', trodAll_mk1 (shut_bool Try.underlying4 _), (trodAll_cons_mk (Below.trod laidOut (by kernel_rfl) (of_decide_eq_true (by kernel_rfl)) k0 bel lt0) (trodAll_cons_mk (Below.trod laidOut (by kernel_rfl) (of_decide_eq_true (by kernel_rfl)) k1 bel lt1) trodAll_mk0)), rfl, bel.frame _, fun h => by cases h⟩

theorem over : Rows.fnFourByteIndexOrderRow.holds Try.pinned (OpenSpec.ofChange Rows.fnFourByteIndexOrderSpec) :=
  OpenClaim.holds_of_wide 7 Try.f7 rfl rfl rfl rfl rfl rfl rfl ⟨rfl, rfl, rfl, rfl, rfl⟩ rfl rfl rfl rfl rfl (by kernel_rfl) Try.func7 (by kernel_rfl)
    (of_decide_eq_true (by kernel_rfl)) (by unfold Func.isWrapper; first | (rw [if_pos (by decide +kernel)]; kernel_rfl) | (rw [if_neg (by decide +kernel)]; exact ⟨rfl, rfl⟩))
    (fun os started H enc _ => lifted os started H enc)

/-- ████ THE STATEMENT ████ -/
theorem proved : Rows.FnFourByteIndexOrderSaid := over
#print axioms proved
end Go.Proofs.Qxb6601077a.fnFourByteIndexOrder
