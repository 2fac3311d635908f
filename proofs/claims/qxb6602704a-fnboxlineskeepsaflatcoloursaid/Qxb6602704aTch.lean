import Derived.Test.Qxb6602704aEarly2
import Derived.Test.Qxb6602704aZz
import Derived.Deep.DeepCutAuto
namespace Go.Proofs.Qxb6602704a.Wk
open Go.ChangeShapes Go.WideShapes Go.ChangeAt Go.RowKit
set_option linter.unusedVariables false
set_option maxRecDepth 100000

/-- A row of bools that the call has made. -/
def Ob (w : World) (g n : Nat) (tb : List Bool) : Prop := w.ownsRow g 4 1 (.slice (some ⟨g, 0, none⟩) n n) n (tb.map Value.bool)

theorem Ob.len {w : World} {g n : Nat} {tb : List Bool} (h : Ob w g n tb) : tb.length = n := by simpa using h.1
theorem Ob.cell {w : World} {g n : Nat} {tb : List Bool} (h : Ob w g n tb) (j : Nat) (hj : j < n) : w.cell? ⟨g, j, none⟩ = some (.bool (tb.getD j false)) := by
  have hl := h.len
  rw [World.ownsRow.cellAt h j (by omega)]
  simp [List.getD, show j < tb.length by omega]
theorem Ob.frozen {w : World} {g n : Nat} {tb : List Bool} (h : Ob w g n tb) (j : Nat) : w.frozen? ⟨g, j, none⟩ = false := World.ownsRow.frozenAt h j
theorem Ob.lt {w : World} {g n : Nat} {tb : List Bool} (h : Ob w g n tb) : g < w.heap.size := (World.ownsRow.lt h g rfl).2
theorem Ob.set {w : World} {g n : Nat} {tb : List Bool} (h : Ob w g n tb) (j : Nat) (v : Bool) : Ob (w.setCell ⟨g, j, none⟩ (.bool v)) g n (tb.set j v) := by
  have h2 := World.ownsRow.stored h j (.bool v)
  rw [← List.map_set] at h2
  exact h2.1
theorem Ob.later {w w' : World} {g n B : Nat} {tb : List Bool} (h : Ob w g n tb) (hb : Below B w w') (hg : g < B) : Ob w' g n tb := by
  obtain ⟨h1, ⟨h', _⟩ | ⟨g', cap', cur, h', hb', hg', r⟩⟩ := h
  · simp at h'
  · simp only [Value.slice.injEq, Option.some.injEq, Addr.mk.injEq, and_true, true_and] at h'
    obtain ⟨rfl, rfl⟩ := h'
    exact ⟨h1, .inr ⟨g, n, cur, rfl, hb', by rw [hb.block g hg]; exact hg', r⟩⟩

theorem Marked.start (nd dl ds Len : Nat) : Marked (List.replicate nd false) nd (TS dl ds Len 0 0 0) := fun k hk => by
  simp only [List.getD, List.getElem?_replicate, hk, if_true, Option.getD_some]
  exact ⟨(fun h => by cases h), (fun h => absurd h (TS_zero _ _ _ _))⟩

/-- ZZboxLines with no line. -/
theorem zzbox_none (ad sa : Option Addr) (nd cd ns cs : Nat) (dl ds sl ss n len : Int) (R : Nat) (w : World) (hn : n ≤ 0) (hR : R ≤ 65536) :
    Calls Try.prog 14 #[.slice ad nd cd, .int .i64 dl, .int .i64 ds, .slice sa ns cs, .int .i64 sl, .int .i64 ss, .int .i64 n, .int .i64 len, .int .i64 R] w fun e w' =>
      e = .returned (.tuple #[]) ∧ Below w.heap.size w w' := by
  have H := hid (box_none (.slice ad nd cd) (.slice sa ns cs) dl ds sl ss n len R w hn hR rfl rfl)
  go_enter Try.func14, Try.ntmps14
  go_wp2_with (go_at_call 27; refine (Hid.out H).mono ?_; rintro e w' ⟨rfl, hb⟩)
  go_end0
  exact ⟨rfl, hb⟩

end Go.Proofs.Qxb6602704a.Wk
