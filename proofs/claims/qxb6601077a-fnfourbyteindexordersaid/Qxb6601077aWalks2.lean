import Derived.Test.Qxb6601077aWalks
import Derived.Laws.CopyOwn
namespace Go.Proofs.Qxb6601077a.Wk
open Go.ChangeShapes Go.WideShapes Go.ChangeAt Go.RowKit
set_option linter.unusedVariables false

theorem four_bad (b off n cap : Nat) (c0 c1 c2 c3 : Int) (w : World) (hn : 4 ≤ n)
    (g0 : w.cell? ⟨b, off, none⟩ = some (.int .u8 c0)) (g1 : w.cell? ⟨b, off + 1, none⟩ = some (.int .u8 c1))
    (g2 : w.cell? ⟨b, off + 2, none⟩ = some (.int .u8 c2)) (g3 : w.cell? ⟨b, off + 3, none⟩ = some (.int .u8 c3))
    (hv : vfB c0 c1 c2 c3 = false) :
    Calls Try.prog 24 #[.slice (some ⟨b, off, none⟩) n cap] w fun e w' => e = .returned (.tuple #[.int .i32 0, .bool false]) ∧ w' = w := by
  have l0 : (0 : Int) < (n : Int) := by omega
  have l1 : (1 : Int) < (n : Int) := by omega
  have l2 : (2 : Int) < (n : Int) := by omega
  have l3 : (3 : Int) < (n : Int) := by omega
  have HV : Hid (vfB c0 c1 c2 c3 = false) := hv
  clear hv
  cases h1 : leadB c0
  case false =>
    go_enter Try.func24, Try.ntmps24
    go_wp2_with (first | (go_at_call 26; refine (lead_any _ _).mono ?_; rintro e w' ⟨rfl, rfl⟩) | (go_at_call 27; refine (dig_any _ _).mono ?_; rintro e w' ⟨rfl, rfl⟩))
    go_ret2
    exact ⟨rfl, rfl⟩
  cases h2 : digB c1
  case false =>
    go_enter Try.func24, Try.ntmps24
    go_wp2_with (first | (go_at_call 26; refine (lead_any _ _).mono ?_; rintro e w' ⟨rfl, rfl⟩) | (go_at_call 27; refine (dig_any _ _).mono ?_; rintro e w' ⟨rfl, rfl⟩))
    go_ret2
    exact ⟨rfl, rfl⟩
  cases h3 : leadB c2
  case false =>
    go_enter Try.func24, Try.ntmps24
    go_wp2_with (first | (go_at_call 26; refine (lead_any _ _).mono ?_; rintro e w' ⟨rfl, rfl⟩) | (go_at_call 27; refine (dig_any _ _).mono ?_; rintro e w' ⟨rfl, rfl⟩))
    go_ret2
    exact ⟨rfl, rfl⟩
  cases h4 : digB c3
  case false =>
    go_enter Try.func24, Try.ntmps24
    go_wp2_with (first | (go_at_call 26; refine (lead_any _ _).mono ?_; rintro e w' ⟨rfl, rfl⟩) | (go_at_call 27; refine (dig_any _ _).mono ?_; rintro e w' ⟨rfl, rfl⟩))
    go_ret2
    exact ⟨rfl, rfl⟩
  exact absurd HV.out (by simp [vfB, h1, h2, h3, h4])

/-- The place of a code. -/
def idx4 (c0 c1 c2 c3 : Int) : Int := (((c0 - 129) * 10 + (c1 - 48)) * 126 + (c2 - 129)) * 10 + (c3 - 48)

theorem four_good (b off n cap : Nat) (c0 c1 c2 c3 : Int) (w : World) (hn : 4 ≤ n)
    (g0 : w.cell? ⟨b, off, none⟩ = some (.int .u8 c0)) (g1 : w.cell? ⟨b, off + 1, none⟩ = some (.int .u8 c1))
    (g2 : w.cell? ⟨b, off + 2, none⟩ = some (.int .u8 c2)) (g3 : w.cell? ⟨b, off + 3, none⟩ = some (.int .u8 c3))
    (hv : vfB c0 c1 c2 c3 = true) :
    Calls Try.prog 24 #[.slice (some ⟨b, off, none⟩) n cap] w fun e w' => e = .returned (.tuple #[.int .i32 (idx4 c0 c1 c2 c3), .bool true]) ∧ ∃ k, w' = w.drewN k := by
  have l0 : (0 : Int) < (n : Int) := by omega
  have l1 : (1 : Int) < (n : Int) := by omega
  have l2 : (2 : Int) < (n : Int) := by omega
  have l3 : (3 : Int) < (n : Int) := by omega
  simp only [vfB, Bool.and_eq_true] at hv
  obtain ⟨⟨⟨h1, h2⟩, h3⟩, h4⟩ := hv
  have b1 := leadB_t h1
  have b2 := digB_t h2
  have b3 := leadB_t h3
  have b4 := digB_t h4
  obtain ⟨x1, y1⟩ := b1
  obtain ⟨x2, y2⟩ := b2
  obtain ⟨x3, y3⟩ := b3
  obtain ⟨x4, y4⟩ := b4
  go_enter Try.func24, Try.ntmps24
  go_wp2_with (first | (go_at_call 26; refine (lead_any _ _).mono ?_; rintro e w' ⟨rfl, rfl⟩) | (go_at_call 27; refine (dig_any _ _).mono ?_; rintro e w' ⟨rfl, rfl⟩))
  go_quiet (fail)
  go_wp2
  go_ret2
  exact ⟨rfl, _, rfl⟩

end Go.Proofs.Qxb6601077a.Wk
