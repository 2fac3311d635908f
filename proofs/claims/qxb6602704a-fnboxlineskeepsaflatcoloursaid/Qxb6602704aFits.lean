import Derived.Test.Qxb6602704aRows
import Derived.WalkKit
import Derived.ProofKit
import Derived.OpenShut
import Derived.Below
import Derived.Deep.QuietTactic
import Derived.BigQuiet
import Derived.WalkSpells
import Derived.WalkSmall
import Derived.Outline
import Derived.Laws.CopyOwn
import Derived.Lib.SliceRun
import Derived.LoopTactic
namespace Go.Proofs.Qxb6602704a.Wk
open Go.ChangeShapes Go.WideShapes Go.ChangeAt Go.RowKit
set_option linter.unusedVariables false

theorem hid {p : Prop} (h : p) : Hid p := h

/-- Where the last pixel ends. -/
def endOf (line step n len : Int) : Int := 4 + (if 1 < n then (n - 1) * line else 0) + (if 1 < len then (len - 1) * step else 0)

/-- What boxFits says. -/
def fitsB (size line step n len : Int) : Bool :=
  decide (1 ≤ len ∧ (1 < n → 0 ≤ line ∧ line ≤ size) ∧ (1 < len → 0 ≤ step ∧ step ≤ size) ∧ endOf line step n len ≤ size)

theorem ret_bool {a b : Bool} (h : a = b) : Ending.returned (.bool a) = .returned (.bool b) := by rw [h]

theorem mul_bd {a b A B : Int} (ha : 0 ≤ a) (ha' : a ≤ A) (hb : 0 ≤ b) (hb' : b ≤ B) : 0 ≤ a * b ∧ a * b ≤ A * B :=
  ⟨Int.mul_nonneg ha hb, Int.mul_le_mul ha' hb' hb (by omega)⟩

theorem fits_any (size line step n len : Int) (w : World) (hs0 : 0 ≤ size) (hs : size ≤ 1048576) (hn : 1 ≤ n) (hn' : n ≤ 65536) (hl : len ≤ 65536) :
    Calls Try.prog 11 #[.int .i64 size, .int .i64 line, .int .i64 step, .int .i64 n, .int .i64 len] w fun e w' => e = .returned (.bool (fitsB size line step n len)) ∧ w' = w := by
  by_cases h1 : len < 1
  · go_enter Try.func11, Try.ntmps11
    go_wp2
    go_ret
    exact ⟨by simp [fitsB]; omega, rfl⟩
  by_cases h2 : 1 < n
  · by_cases h3 : line < 0
    · go_enter Try.func11, Try.ntmps11
      go_wp2
      go_ret
      exact ⟨by simp [fitsB]; omega, rfl⟩
    by_cases h4 : size < line
    · go_enter Try.func11, Try.ntmps11
      go_wp2
      go_ret
      exact ⟨by simp [fitsB]; omega, rfl⟩
    obtain ⟨p1, p2⟩ := mul_bd (a := n - 1) (b := line) (A := 65535) (B := 1048576) (by omega) (by omega) (by omega) (by omega)
    by_cases h5 : 1 < len
    · by_cases h6 : step < 0
      · go_enter Try.func11, Try.ntmps11
        go_wp2
        go_ret
        exact ⟨by simp [fitsB]; omega, rfl⟩
      by_cases h7 : size < step
      · go_enter Try.func11, Try.ntmps11
        go_wp2
        go_ret
        exact ⟨by simp [fitsB]; omega, rfl⟩
      obtain ⟨q1, q2⟩ := mul_bd (a := len - 1) (b := step) (A := 65535) (B := 1048576) (by omega) (by omega) (by omega) (by omega)
      go_enter Try.func11, Try.ntmps11
      go_wp2
      go_ret
      exact ⟨ret_bool (by unfold fitsB endOf; rw [if_pos (by omega), if_pos (by omega)]; apply decide_eq_decide.2; constructor <;> omega), rfl⟩
    · go_enter Try.func11, Try.ntmps11
      go_wp2
      go_ret
      exact ⟨ret_bool (by unfold fitsB endOf; rw [if_pos (by omega), if_neg (by omega)]; apply decide_eq_decide.2; constructor <;> omega), rfl⟩
  · by_cases h5 : 1 < len
    · by_cases h6 : step < 0
      · go_enter Try.func11, Try.ntmps11
        go_wp2
        go_ret
        exact ⟨by simp [fitsB]; omega, rfl⟩
      by_cases h7 : size < step
      · go_enter Try.func11, Try.ntmps11
        go_wp2
        go_ret
        exact ⟨by simp [fitsB]; omega, rfl⟩
      obtain ⟨q1, q2⟩ := mul_bd (a := len - 1) (b := step) (A := 65535) (B := 1048576) (by omega) (by omega) (by omega) (by omega)
      go_enter Try.func11, Try.ntmps11
      go_wp2
      go_ret
      exact ⟨ret_bool (by unfold fitsB endOf; rw [if_neg (by omega), if_pos (by omega)]; apply decide_eq_decide.2; constructor <;> omega), rfl⟩
    · go_enter Try.func11, Try.ntmps11
      go_wp2
      go_ret
      exact ⟨ret_bool (by unfold fitsB endOf; rw [if_neg (by omega), if_neg (by omega)]; apply decide_eq_decide.2; constructor <;> omega), rfl⟩

end Go.Proofs.Qxb6602704a.Wk
