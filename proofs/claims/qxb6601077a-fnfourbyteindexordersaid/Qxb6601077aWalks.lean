import Derived.Test.Qxb6601077aRows
import Derived.WalkKit
import Derived.ProofKit
import Derived.OpenShut
import Derived.Below
import Derived.Deep.QuietTactic
import Derived.BigQuiet
import Derived.WalkSpells
import Derived.Outline
namespace Go.Proofs.Qxb6601077a.Wk
open Go.ChangeShapes Go.WideShapes Go.ChangeAt Go.RowKit
set_option linter.unusedVariables false

def leadB (x : Int) : Bool := decide (129 ≤ x ∧ x ≤ 254)
def digB (x : Int) : Bool := decide (48 ≤ x ∧ x ≤ 57)

theorem leadB_t {x : Int} (h : leadB x = true) : 129 ≤ x ∧ x ≤ 254 := by simpa [leadB] using h
theorem leadB_f {x : Int} (h : leadB x = false) : ¬ (129 ≤ x ∧ x ≤ 254) := by simpa [leadB] using h
theorem digB_t {x : Int} (h : digB x = true) : 48 ≤ x ∧ x ≤ 57 := by simpa [digB] using h
theorem digB_f {x : Int} (h : digB x = false) : ¬ (48 ≤ x ∧ x ≤ 57) := by simpa [digB] using h

theorem lead_any (x : Int) (w : World) : Calls Try.prog 26 #[.int .u8 x] w fun e w' => e = .returned (.bool (leadB x)) ∧ w' = w := by
  by_cases h1 : 129 ≤ x
  · by_cases h2 : x ≤ 254
    · go_enter Try.func26, Try.ntmps26
      go_wp2
      go_ret
      exact ⟨by simp [leadB, h1, h2], rfl⟩
    · go_enter Try.func26, Try.ntmps26
      go_wp2
      go_ret
      exact ⟨by simp [leadB, h1, h2], rfl⟩
  · go_enter Try.func26, Try.ntmps26
    go_wp2
    go_ret
    exact ⟨by simp [leadB]; omega, rfl⟩

theorem dig_any (x : Int) (w : World) : Calls Try.prog 27 #[.int .u8 x] w fun e w' => e = .returned (.bool (digB x)) ∧ w' = w := by
  by_cases h1 : 48 ≤ x
  · by_cases h2 : x ≤ 57
    · go_enter Try.func27, Try.ntmps27
      go_wp2
      go_ret
      exact ⟨by simp [digB, h1, h2], rfl⟩
    · go_enter Try.func27, Try.ntmps27
      go_wp2
      go_ret
      exact ⟨by simp [digB, h1, h2], rfl⟩
  · go_enter Try.func27, Try.ntmps27
    go_wp2
    go_ret
    exact ⟨by simp [digB]; omega, rfl⟩

def vfB (c0 c1 c2 c3 : Int) : Bool := leadB c0 && digB c1 && leadB c2 && digB c3

theorem valid_any (b off n cap : Nat) (c0 c1 c2 c3 : Int) (w : World) (hn : 4 ≤ n)
    (g0 : w.cell? ⟨b, off, none⟩ = some (.int .u8 c0)) (g1 : w.cell? ⟨b, off + 1, none⟩ = some (.int .u8 c1))
    (g2 : w.cell? ⟨b, off + 2, none⟩ = some (.int .u8 c2)) (g3 : w.cell? ⟨b, off + 3, none⟩ = some (.int .u8 c3)) :
    Calls Try.prog 17 #[.slice (some ⟨b, off, none⟩) n cap] w fun e w' => e = .returned (.bool (vfB c0 c1 c2 c3)) ∧ w' = w := by
  have l0 : (0 : Int) < (n : Int) := by omega
  have l1 : (1 : Int) < (n : Int) := by omega
  have l2 : (2 : Int) < (n : Int) := by omega
  have l3 : (3 : Int) < (n : Int) := by omega
  by_cases h1 : 129 ≤ c0
  case neg =>
    go_enter Try.func17, Try.ntmps17
    go_wp2
    go_ret
    exact ⟨by simp [vfB, leadB, digB]; omega, rfl⟩
  by_cases h2 : c0 ≤ 254
  case neg =>
    go_enter Try.func17, Try.ntmps17
    go_wp2
    go_ret
    exact ⟨by simp [vfB, leadB, digB]; omega, rfl⟩
  by_cases h3 : 48 ≤ c1
  case neg =>
    go_enter Try.func17, Try.ntmps17
    go_wp2
    go_ret
    exact ⟨by simp [vfB, leadB, digB]; omega, rfl⟩
  by_cases h4 : c1 ≤ 57
  case neg =>
    go_enter Try.func17, Try.ntmps17
    go_wp2
    go_ret
    exact ⟨by simp [vfB, leadB, digB]; omega, rfl⟩
  by_cases h5 : 129 ≤ c2
  case neg =>
    go_enter Try.func17, Try.ntmps17
    go_wp2
    go_ret
    exact ⟨by simp [vfB, leadB, digB]; omega, rfl⟩
  by_cases h6 : c2 ≤ 254
  case neg =>
    go_enter Try.func17, Try.ntmps17
    go_wp2
    go_ret
    exact ⟨by simp [vfB, leadB, digB]; omega, rfl⟩
  by_cases h7 : 48 ≤ c3
  case neg =>
    go_enter Try.func17, Try.ntmps17
    go_wp2
    go_ret
    exact ⟨by simp [vfB, leadB, digB]; omega, rfl⟩
  by_cases h8 : c3 ≤ 57
  case neg =>
    go_enter Try.func17, Try.ntmps17
    go_wp2
    go_ret
    exact ⟨by simp [vfB, leadB, digB]; omega, rfl⟩
  go_enter Try.func17, Try.ntmps17
  go_wp2
  go_ret
  exact ⟨by simp [vfB, leadB, digB]; omega, rfl⟩

end Go.Proofs.Qxb6601077a.Wk
