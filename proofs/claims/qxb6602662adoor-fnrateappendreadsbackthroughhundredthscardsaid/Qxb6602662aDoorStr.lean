import Derived.Test.Qxb6602662aDoorVal
namespace Go.Proofs.Qxb6602662aDoor.Wk
open Go.ChangeShapes Go.WideShapes Go.ChangeAt Go.RowKit
set_option linter.unusedVariables false

def AllDig (s : ByteArray) : Prop := ∀ k (h : k < s.size), 48 ≤ (s[k].toNat : Int) ∧ (s[k].toNat : Int) ≤ 57

theorem ret_int {k : IntKind} {a b : Int} (h : a = b) : Ending.returned (.int k a) = .returned (.int k b) := by rw [h]

set_option maxHeartbeats 400000 in
theorem isDigits_in (s : ByteArray) (w : World) (hs : s.size ≤ 100) (h0 : s.toList.isEmpty = false) (hd : AllDig s) :
    Calls Tryd.prog 13 #[.string s] w fun e w' => e = .returned (.bool true) ∧ w' = w := by
  have HD := hid hd
  clear hd
  go_enter Tryd.func13, Tryd.ntmps13
  go_wp2
  go_loop [3] (fun i => ∃ k : Nat, k ≤ s.size ∧ i = .int .i64 k) (fun i => s.size - (intOf i).toNat)
  case atStart => exact ⟨0, Nat.zero_le _, rfl⟩
  case round =>
    obtain ⟨k, hk, rfl⟩ := hrel
    by_cases hlt : k < s.size
    · have hq := HD.out k hlt
      obtain ⟨q1, q2⟩ := hq
      go_wp2
      all_goals
        go_round
        case rel => exact ⟨k + 1, by omega, by go_num⟩
        case measure => simp [intOf]; omega
    · go_wp2
      go_ret
      exact ⟨rfl, rfl⟩

theorem isDigits_out (s : ByteArray) (w : World) (hs : s.size ≤ 100) (h0 : s.toList.isEmpty = false) (hd : AllDig s) :
    Calls Tryd.prog 9 #[.string s] w fun e w' => e = .returned (.bool true) ∧ w' = w := by
  have H := hid (isDigits_in s w hs h0 hd)
  clear h0 hd
  go_enter Tryd.func9, Tryd.ntmps9
  go_wp2_with (go_at_call 13; refine (Hid.out H).mono ?_; rintro e w' ⟨rfl, rfl⟩)
  go_ret
  exact ⟨rfl, rfl⟩

end Go.Proofs.Qxb6602662aDoor.Wk
