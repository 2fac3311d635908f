import Derived.Test.Qxb6601077aClone
namespace Go.Proofs.Qxb6601077a.Wk
open Go.ChangeShapes Go.WideShapes Go.ChangeAt Go.RowKit
set_option linter.unusedVariables false

theorem hid {p : Prop} (h : p) : Hid p := h

theorem zz_good (b off n cap : Nat) (c0 c1 c2 c3 : Int) (w : World) (hn : 4 ≤ n)
    (g0 : w.cell? ⟨b, off, none⟩ = some (.int .u8 c0)) (g1 : w.cell? ⟨b, off + 1, none⟩ = some (.int .u8 c1))
    (g2 : w.cell? ⟨b, off + 2, none⟩ = some (.int .u8 c2)) (g3 : w.cell? ⟨b, off + 3, none⟩ = some (.int .u8 c3))
    (hv : vfB c0 c1 c2 c3 = true) :
    Calls Try.prog 16 #[.slice (some ⟨b, off, none⟩) n cap] w fun e w' => e = .returned (.tuple #[.int .i32 (idx4 c0 c1 c2 c3), .bool true]) ∧ ∃ k, w' = w.drewN k := by
  have H := four_good b off n cap c0 c1 c2 c3 w hn g0 g1 g2 g3 hv
  have H' := hid H
  clear H hv g0 g1 g2 g3
  go_enter Try.func16, Try.ntmps16
  go_wp2_with (go_at_call 24; refine (Hid.out H').mono ?_; rintro e w' ⟨rfl, k, rfl⟩)
  go_ret2
  exact ⟨rfl, k, rfl⟩

theorem zz_bad (b off n cap : Nat) (c0 c1 c2 c3 : Int) (w : World) (hn : 4 ≤ n)
    (g0 : w.cell? ⟨b, off, none⟩ = some (.int .u8 c0)) (g1 : w.cell? ⟨b, off + 1, none⟩ = some (.int .u8 c1))
    (g2 : w.cell? ⟨b, off + 2, none⟩ = some (.int .u8 c2)) (g3 : w.cell? ⟨b, off + 3, none⟩ = some (.int .u8 c3))
    (hv : vfB c0 c1 c2 c3 = false) :
    Calls Try.prog 16 #[.slice (some ⟨b, off, none⟩) n cap] w fun e w' => e = .returned (.tuple #[.int .i32 0, .bool false]) ∧ w' = w := by
  have H := four_bad b off n cap c0 c1 c2 c3 w hn g0 g1 g2 g3 hv
  have H' := hid H
  clear H hv g0 g1 g2 g3
  go_enter Try.func16, Try.ntmps16
  go_wp2_with (go_at_call 24; refine (Hid.out H').mono ?_; rintro e w' ⟨rfl, rfl⟩)
  go_ret2
  exact ⟨rfl, rfl⟩

/-- The cells of an owned row of bytes. -/
theorem own_cell {w : World} {B g n c : Nat} {zs : List Int} (h : w.ownsRow B 5 1 (.slice (some ⟨g, 0, none⟩) n c) n (zs.map (Value.int .u8))) (j : Nat) (hj : j < n) :
    w.cell? ⟨g, j, none⟩ = some (.int .u8 (zs.getD j 0)) := by
  have hl : zs.length = n := by simpa using h.1
  rw [h.cellAt j (by omega)]
  simp [List.getD, show j < zs.length by omega]

end Go.Proofs.Qxb6601077a.Wk
