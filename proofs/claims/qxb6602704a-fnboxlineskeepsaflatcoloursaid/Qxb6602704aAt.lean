import Derived.Test.Qxb6602704aClone
namespace Go.Proofs.Qxb6602704a.Wk
open Go.ChangeShapes Go.WideShapes Go.ChangeAt Go.RowKit
set_option linter.unusedVariables false

theorem Steps.mul {n : Nat} {line : Int} {dl : Nat} (h : Steps n line dl) (i : Nat) (hi : i < n) : (i : Int) * line = ((i * dl : Nat) : Int) := by
  have h1 := h i hi
  by_cases h2 : (1 : Int) < (n : Int)
  · rwa [if_pos h2] at h1
  · obtain rfl : i = 0 := by omega
    simp

theorem at_one (j : Int) (k : Nat) (bL bI bS gs X M Len ds : Nat) (step : Int) (w : World) (hM : M ≤ 1048576) (hLen : Len ≤ 65536) (hk : k < Len) (hY : Steps Len step ds) (hP : k * ds + 4 ≤ M)
    (hj : (j < 0 ∧ k = 0) ∨ ((Len : Int) ≤ j ∧ k + 1 = Len) ∨ j = (k : Int))
    (c1 : w.cell? ⟨bL, 0, none⟩ = some (.int .i64 Len)) (c2 : w.cell? ⟨bI, 0, none⟩ = some (.slice (some ⟨gs, X, none⟩) M M)) (c3 : w.cell? ⟨bS, 2, none⟩ = some (.int .i64 step)) :
    Calls Try.prog 31 #[.int .i64 j, .pointer (some ⟨bL, 0, none⟩), .pointer (some ⟨bI, 0, none⟩), .pointer (some ⟨bS, 0, none⟩)] w fun e w' =>
      e = .returned (.slice (some ⟨gs, X + k * ds, none⟩) 4 (M - k * ds)) ∧ w' = w := by
  have hm := hY.mul k hk
  obtain ⟨Y, eY⟩ : ∃ Y, Y = k * ds := ⟨_, rfl⟩
  rw [← eY] at hm hP ⊢
  clear eY hY
  have i1 : (Len : Int) - 1 ≤ 65535 := by omega
  rcases hj with ⟨h1, rfl⟩ | ⟨h1, h2⟩ | rfl
  · obtain rfl : Y = 0 := by simp at hm; omega
    clear hm
    go_enter Try.func31, Try.ntmps31
    go_wp2
    go_ret
    exact ⟨rfl, rfl⟩
  · have hm' : ((Len : Int) - 1) * step = (Y : Int) := by rw [← hm]; congr 1; omega
    clear hm
    have i2 : 1 ≤ (Len : Int) := by omega
    have i3 : 0 ≤ j := by omega
    have i4 : (Len : Int) - 1 ≤ j := by omega
    have i5 : ¬ j ≤ (Len : Int) - 1 := by omega
    go_enter Try.func31, Try.ntmps31
    go_wp2
    go_ret
    exact ⟨rfl, rfl⟩
  · have i2 : (k : Int) ≤ (Len : Int) - 1 := by omega
    go_enter Try.func31, Try.ntmps31
    go_wp2
    rw [show Y + 4 - Y = 4 by omega]
    go_ret
    exact ⟨rfl, rfl⟩

/-- The pixel that the closure hands out is of the colour. -/
theorem at_any (j : Int) (bL bI bS gs X M Len ds : Nat) (step : Int) (col : List Int) (w : World) (hM : M ≤ 1048576) (hLen : Len ≤ 65536) (h1 : 1 ≤ Len) (hY : Steps Len step ds) (hP : ∀ k, k < Len → k * ds + 4 ≤ M)
    (c1 : w.cell? ⟨bL, 0, none⟩ = some (.int .i64 Len)) (c2 : w.cell? ⟨bI, 0, none⟩ = some (.slice (some ⟨gs, X, none⟩) M M)) (c3 : w.cell? ⟨bS, 2, none⟩ = some (.int .i64 step))
    (hf : ∀ k, k < Len → ∀ c, c < 4 → w.cell? ⟨gs, X + k * ds + c, none⟩ = some (.int .u8 (col.getD c 0))) :
    Calls Try.prog 31 #[.int .i64 j, .pointer (some ⟨bL, 0, none⟩), .pointer (some ⟨bI, 0, none⟩), .pointer (some ⟨bS, 0, none⟩)] w fun e w' =>
      ∃ o cp, e = .returned (.slice (some ⟨gs, o, none⟩) 4 cp) ∧ Hid (∀ c, c < 4 → w.cell? ⟨gs, o + c, none⟩ = some (.int .u8 (col.getD c 0))) ∧ w' = w := by
  obtain ⟨k, hk, hj⟩ : ∃ k, k < Len ∧ ((j < 0 ∧ k = 0) ∨ ((Len : Int) ≤ j ∧ k + 1 = Len) ∨ j = (k : Int)) := by
    by_cases a : j < 0
    · exact ⟨0, by omega, .inl ⟨a, rfl⟩⟩
    · by_cases b : (Len : Int) ≤ j
      · exact ⟨Len - 1, by omega, .inr (.inl ⟨b, by omega⟩)⟩
      · exact ⟨j.toNat, by omega, .inr (.inr (by omega))⟩
  refine (at_one j k bL bI bS gs X M Len ds step w hM hLen hk hY (hP k hk) hj c1 c2 c3).mono ?_
  rintro e w' ⟨rfl, rfl⟩
  exact ⟨_, _, rfl, hf k hk, rfl⟩

end Go.Proofs.Qxb6602704a.Wk
