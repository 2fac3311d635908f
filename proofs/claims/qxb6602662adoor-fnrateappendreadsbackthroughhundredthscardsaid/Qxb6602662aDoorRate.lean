import Derived.Test.Qxb6602662aDoorApp
namespace Go.Proofs.Qxb6602662aDoor.Wk
open Go.ChangeShapes Go.WideShapes Go.ChangeAt Go.RowKit
set_option linter.unusedVariables false

theorem u8cell (k : Nat) (h : k < 256) : Value.int .u8 ((UInt8.ofNat k).toNat : Int) = Value.int .u8 (k : Int) := by
  simp; omega

theorem three_cells (w : World) (a b c : Value) (j : Nat) (u : Value) (h : [a, b, c][j]? = some u) : (w.alloc (.cells #[a, b, c] 5)).cell? ((⟨w.heap.size, 0, none⟩ : Addr).add j) = some u := by
  match j, h with
  | 0, h => simp at h; subst h; simp [Addr.add]
  | 1, h => simp at h; subst h; simp [Addr.add]
  | 2, h => simp at h; subst h; simp [Addr.add]

/-- appendHundredths, at a number below 100. -/
theorem hund (B n f : Nat) (hf : f < 100) (sv : Value) (xs : List Value) (w : World) (hown : w.ownsRow B 5 1 sv n xs) (hB : B ≤ w.heap.size) (hlim : n + 3 ≤ 140737488355328) :
    Calls Tryd.prog 12 #[sv, .int .u64 f] w fun e w' => ∃ v', e = .returned v' ∧ w'.ownsRow B 5 1 v' (n + 3) (xs ++ [.int .u8 46, .int .u8 ((48 + f / 10 : Nat) : Int), .int .u8 ((48 + f % 10 : Nat) : Int)]) ∧ Below B w w' := by
  obtain ⟨i0, hi, hz0, hz1, hz2⟩ := info_parts info5
  have i1 : (f : Int) < 100 := by omega
  have HO := hid hown
  clear hown
  go_enter Tryd.func12, Tryd.ntmps12
  go_wp2_with (at_builtin; refine wpList_append_own _ rfl _ _ 22 rfl B 5 i0 (.int .u8 0) 1 1 Tryd.underlying22 hi hz0 hz1 hz2 rfl (by decide) _ _ _ rfl ((Hid.out HO).alloc _) ⟨w.heap.size, 0, none⟩ 3 3 [.int .u8 46, .int .u8 (48 + (f : Int) / 10), .int .u8 (48 + (f : Int) % 10)] rfl rfl (three_cells _ _ _ _) (by intro u hu; simp at hu; rcases hu with rfl | rfl | rfl <;> rfl) (by unfold maxLen; omega) (by omega) (by simp; omega) ?_; intro v' w1 hown' hgrow hnil)
  go_ret
  refine ⟨v', rfl, ?_, ((Below.refl B w).alloc hB _).grown hgrow (by simp; omega) (fun k hk => (HO.out.lt k hk).1)⟩
  have e1 : ((48 + f / 10 : Nat) : Int) = 48 + (f : Int) / 10 := by omega
  have e2 : ((48 + f % 10 : Nat) : Int) = 48 + (f : Int) % 10 := by omega
  rw [e1, e2]
  exact hown'

/-- appendHundredths, at what the least int64 brings it. -/
theorem hund_min (B n : Nat) (sv : Value) (xs : List Value) (w : World) (hown : w.ownsRow B 5 1 sv n xs) (hB : B ≤ w.heap.size) (hlim : n + 3 ≤ 140737488355328) :
    Calls Tryd.prog 12 #[sv, .int .u64 18446744073709551608] w fun e w' => ∃ v', e = .returned v' ∧ w'.ownsRow B 5 1 v' (n + 3) (xs ++ [.int .u8 46, .int .u8 200, .int .u8 56]) ∧ Below B w w' := by
  obtain ⟨i0, hi, hz0, hz1, hz2⟩ := info_parts info5
  have HO := hid hown
  clear hown
  go_enter Tryd.func12, Tryd.ntmps12
  go_wp2_with (at_builtin; refine wpList_append_own _ rfl _ _ 22 rfl B 5 i0 (.int .u8 0) 1 1 Tryd.underlying22 hi hz0 hz1 hz2 rfl (by decide) _ _ _ rfl ((Hid.out HO).alloc _) ⟨w.heap.size, 0, none⟩ 3 3 [.int .u8 46, .int .u8 200, .int .u8 56] rfl rfl (three_cells _ _ _ _) (by intro u hu; simp at hu; rcases hu with rfl | rfl | rfl <;> rfl) (by unfold maxLen; omega) (by omega) (by simp; omega) ?_; intro v' w1 hown' hgrow hnil)
  go_ret
  exact ⟨v', rfl, hown', ((Below.refl B w).alloc hB _).grown hgrow (by simp; omega) (fun k hk => (HO.out.lt k hk).1)⟩

end Go.Proofs.Qxb6602662aDoor.Wk
