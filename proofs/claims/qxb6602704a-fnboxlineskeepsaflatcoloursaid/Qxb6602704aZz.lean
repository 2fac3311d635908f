import Derived.Test.Qxb6602704aLn
namespace Go.Proofs.Qxb6602704a.Wk
open Go.ChangeShapes Go.WideShapes Go.ChangeAt Go.RowKit
set_option linter.unusedVariables false

/-- boxLines with no line: nothing is written. -/
theorem box_none (dV sV : Value) (dl ds sl ss n len : Int) (R : Nat) (w : World) (hn : n ≤ 0) (hR : R ≤ 65536) (h1 : dV.oneCell' = true) (h2 : sV.oneCell' = true) :
    Calls Try.prog 27 #[.agg #[dV, .int .i64 dl, .int .i64 ds], .agg #[sV, .int .i64 sl, .int .i64 ss], .int .i64 n, .int .i64 len, .int .i64 R] w fun e w' =>
      e = .returned (.tuple #[]) ∧ Below w.heap.size w w' := by
  go_enter Try.func27, Try.ntmps27
  go_wp2
  go_loopw [30] (fun iv wr => iv = .int .i64 0 ∧ Below w.heap.size w wr) (fun _ _ => 0)
  case atStart => exact ⟨rfl, (((Below.refl w.heap.size w).alloc (Nat.le_refl _) _).alloc (by simp) _).alloc (by simp; omega) _⟩
  case round =>
    obtain ⟨rfl, hb⟩ := hrel
    have HB := hid hb
    clear hb
    go_wp2
    go_end0
    exact ⟨rfl, HB.out⟩

end Go.Proofs.Qxb6602704a.Wk
