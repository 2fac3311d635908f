import Derived.Test.Qxb6601077aCmp
import Derived.WalkSmall
namespace Go.Proofs.Qxb6601077a.Wk
open Go.ChangeShapes Go.WideShapes Go.ChangeAt Go.RowKit
set_option linter.unusedVariables false

theorem vf_bounds {c0 c1 c2 c3 : Int} (h : vfB c0 c1 c2 c3 = true) : (129 ≤ c0 ∧ c0 ≤ 254) ∧ (48 ≤ c1 ∧ c1 ≤ 57) ∧ (129 ≤ c2 ∧ c2 ≤ 254) ∧ (48 ≤ c3 ∧ c3 ≤ 57) := by
  simp only [vfB, Bool.and_eq_true] at h
  obtain ⟨⟨⟨t1, t2⟩, t3⟩, t4⟩ := h
  exact ⟨leadB_t t1, digB_t t2, leadB_t t3, digB_t t4⟩

/-- The places are ordered as the codes are. -/
theorem order (zs ys : List Int) (hz : vfB (zs.getD 0 0) (zs.getD 1 0) (zs.getD 2 0) (zs.getD 3 0) = true) (hy : vfB (ys.getD 0 0) (ys.getD 1 0) (ys.getD 2 0) (ys.getD 3 0) = true) :
    (cmpFrom zs ys 0 4 = -1 ∧ idx4 (zs.getD 0 0) (zs.getD 1 0) (zs.getD 2 0) (zs.getD 3 0) < idx4 (ys.getD 0 0) (ys.getD 1 0) (ys.getD 2 0) (ys.getD 3 0)) ∨
    (cmpFrom zs ys 0 4 = 0 ∧ idx4 (zs.getD 0 0) (zs.getD 1 0) (zs.getD 2 0) (zs.getD 3 0) = idx4 (ys.getD 0 0) (ys.getD 1 0) (ys.getD 2 0) (ys.getD 3 0)) ∨
    (cmpFrom zs ys 0 4 = 1 ∧ idx4 (ys.getD 0 0) (ys.getD 1 0) (ys.getD 2 0) (ys.getD 3 0) < idx4 (zs.getD 0 0) (zs.getD 1 0) (zs.getD 2 0) (zs.getD 3 0)) := by
  have bz := vf_bounds hz
  have bw := vf_bounds hy
  simp only [cmpFrom, Nat.zero_add, Nat.reduceAdd]
  generalize zs.getD 0 0 = z0 at *
  generalize zs.getD 1 0 = z1 at *
  generalize zs.getD 2 0 = z2 at *
  generalize zs.getD 3 0 = z3 at *
  generalize ys.getD 0 0 = y0 at *
  generalize ys.getD 1 0 = y1 at *
  generalize ys.getD 2 0 = y2 at *
  generalize ys.getD 3 0 = y3 at *
  clear hz hy
  unfold idx4
  by_cases h0 : z0 < y0
  · rw [if_pos h0]; left; omega
  rw [if_neg h0]
  by_cases g0 : y0 < z0
  · rw [if_pos g0]; right; right; omega
  rw [if_neg g0]
  by_cases h1 : z1 < y1
  · rw [if_pos h1]; left; omega
  rw [if_neg h1]
  by_cases g1 : y1 < z1
  · rw [if_pos g1]; right; right; omega
  rw [if_neg g1]
  by_cases h2 : z2 < y2
  · rw [if_pos h2]; left; omega
  rw [if_neg h2]
  by_cases g2 : y2 < z2
  · rw [if_pos g2]; right; right; omega
  rw [if_neg g2]
  by_cases h3 : z3 < y3
  · rw [if_pos h3]; left; omega
  rw [if_neg h3]
  by_cases g3 : y3 < z3
  · rw [if_pos g3]; right; right; omega
  rw [if_neg g3]
  right; left; omega

/-- The ways on which nothing is read. -/
theorem ord_early (a b : Option Addr) (n1 c1 n2 c2 : Nat) (w : World) (hm1 : n1 ≤ maxLen) (hm2 : n2 ≤ maxLen) (h : 524288 < n1 ∨ 524288 < n2 ∨ n1 < 4 ∨ n2 < 4) :
    Calls Try.prog 7 #[.slice a n1 c1, .slice b n2 c2] w fun e w' => e = .returned (.bool true) ∧ Below w.heap.size w w' := by
  unfold maxLen at hm1 hm2
  by_cases x1 : 1048576 < n1
  · have y1 : (1048576 : Int) < (n1 : Int) := by omega
    clear h
    go_enter Try.func7, Try.ntmps7
    go_wp2_with (go_at_call 18; go_in)
    go_ret
    exact ⟨rfl, Below.refl _ _⟩
  have y1 : (n1 : Int) ≤ (1048576 : Int) := by omega
  by_cases x2 : 1048576 < n2
  · have y2 : (1048576 : Int) < (n2 : Int) := by omega
    clear h
    go_enter Try.func7, Try.ntmps7
    go_wp2_with (go_at_call 18; go_in)
    go_ret
    exact ⟨rfl, Below.refl _ _⟩
  have y2 : (n2 : Int) ≤ (1048576 : Int) := by omega
  by_cases x3 : 1048576 < n1 + n2
  · have y3 : (1048576 : Int) < (n1 : Int) + (n2 : Int) := by omega
    clear h
    go_enter Try.func7, Try.ntmps7
    go_wp2_with (go_at_call 18; go_in)
    go_ret
    exact ⟨rfl, Below.refl _ _⟩
  have y3 : (n1 : Int) + (n2 : Int) ≤ (1048576 : Int) := by omega
  by_cases x4 : 524288 < n1
  · have y4 : (524288 : Int) < (n1 : Int) := by omega
    clear h
    go_enter Try.func7, Try.ntmps7
    go_wp2_with (go_at_call 18; go_in)
    go_ret
    exact ⟨rfl, Below.refl _ _⟩
  have y4 : (n1 : Int) ≤ (524288 : Int) := by omega
  by_cases x5 : 524288 < n2
  · have y5 : (524288 : Int) < (n2 : Int) := by omega
    clear h
    go_enter Try.func7, Try.ntmps7
    go_wp2_with (go_at_call 18; go_in)
    go_ret
    exact ⟨rfl, Below.refl _ _⟩
  have y5 : (n2 : Int) ≤ (524288 : Int) := by omega
  by_cases x6 : n1 < 4
  · have y6 : (n1 : Int) < (4 : Int) := by omega
    clear h
    go_enter Try.func7, Try.ntmps7
    go_wp2_with (go_at_call 18; go_in)
    go_ret
    exact ⟨rfl, Below.refl _ _⟩
  have y6 : (4 : Int) ≤ (n1 : Int) := by omega
  have x7 : n2 < 4 := by omega
  have y7 : (n2 : Int) < (4 : Int) := by omega
  clear h
  go_enter Try.func7, Try.ntmps7
  go_wp2_with (go_at_call 18; go_in)
  go_ret
  exact ⟨rfl, Below.refl _ _⟩

end Go.Proofs.Qxb6601077a.Wk
