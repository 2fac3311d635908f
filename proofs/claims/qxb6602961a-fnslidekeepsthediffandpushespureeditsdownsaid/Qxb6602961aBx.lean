import Derived.Test.Qxb6602961aVal
import Derived.Deep.LoopGhost
namespace Go.Proofs.Qxb6602961a.Wk
open Go.ChangeShapes Go.WideShapes Go.ChangeAt Go.RowKit
set_option linter.unusedVariables false

/-- The edit on its way lies in block g. -/
def Bx (w : World) (g : Nat) (e : Ed) : Prop := w.heap[g]? = some (.cells #[.int .i64 e.o, .int .i64 e.d, .int .i64 e.n, .int .i64 e.i] 39 (0, 0))

theorem Bx.start (w : World) (e : Ed) : Bx (w.alloc (.cells #[.int .i64 e.o, .int .i64 e.d, .int .i64 e.n, .int .i64 e.i] 39)) w.heap.size e := Go.heap_alloc_new w _

theorem Bx.cells {w : World} {g : Nat} {e : Ed} (h : Bx w g e) : w.cell? ⟨g, 0, none⟩ = some (.int .i64 e.o) ∧ w.cell? ⟨g, 1, none⟩ = some (.int .i64 e.d) ∧ w.cell? ⟨g, 2, none⟩ = some (.int .i64 e.n) ∧ w.cell? ⟨g, 3, none⟩ = some (.int .i64 e.i) :=
  ⟨cell_of_row w g 0 _ 39 (0, 0) h, cell_of_row w g 1 _ 39 (0, 0) h, cell_of_row w g 2 _ 39 (0, 0) h, cell_of_row w g 3 _ 39 (0, 0) h⟩

theorem Bx.frozen {w : World} {g : Nat} {e : Ed} (h : Bx w g e) (c : Nat) : w.frozen? ⟨g, c, none⟩ = false := frozen_of_row w g c _ 39 h

theorem Bx.move {w : World} {g : Nat} {e : Ed} (h : Bx w g e) (x y : Int) : Bx ((w.setCell ⟨g, 0, none⟩ (.int .i64 x)).setCell ⟨g, 2, none⟩ (.int .i64 y)) g ⟨x, e.d, y, e.i⟩ := by
  have h1 := heap_setCell_same w g 0 _ 39 (.int .i64 x) h
  have h2 := heap_setCell_same _ g 2 _ 39 (.int .i64 y) h1
  exact h2

theorem Bx.join {w : World} {g : Nat} {e : Ed} (h : Bx w g e) (x y : Int) : Bx ((w.setCell ⟨g, 1, none⟩ (.int .i64 x)).setCell ⟨g, 3, none⟩ (.int .i64 y)).drew.drew g ⟨e.o, x, e.n, y⟩ := by
  have h1 := heap_setCell_same w g 1 _ 39 (.int .i64 x) h
  have h2 := heap_setCell_same _ g 3 _ 39 (.int .i64 y) h1
  exact h2

theorem OwE.later {w w' : World} {base n B : Nat} {v : Value} {es : List Ed} (h : OwE w base v n es) (hb : Below B w w') (hB : w.heap.size ≤ B) : OwE w' base v n es := by
  have hlt := World.ownsRow.lt h
  obtain ⟨h1, ⟨h', h2⟩ | ⟨g', cap', cur, h', hb', hg', r⟩⟩ := h
  · exact ⟨h1, .inl ⟨h', h2⟩⟩
  · have := (hlt g' (by rw [h']; rfl)).2
    exact ⟨h1, .inr ⟨g', cap', cur, h', hb', by rw [hb.block g' (by omega)]; exact hg', r⟩⟩

theorem flat_one (S : List Ed) (e : Ed) : flat S ++ [.int .i64 e.o, .int .i64 e.d, .int .i64 e.n, .int .i64 e.i] = flat (S ++ [e]) := by
  rw [flat_app]
  rfl

theorem OwE.snoc {w : World} {base : Nat} {v : Value} {S : List Ed} {e : Ed} (h : w.ownsRow base 39 4 v (S.length + 1) (flat S ++ [.int .i64 e.o, .int .i64 e.d, .int .i64 e.n, .int .i64 e.i])) : OwE w base v (S ++ [e]).length (S ++ [e]) := by
  rw [flat_one] at h
  rw [List.length_append]
  exact h

theorem nth_one (a : List Int) (p : Nat) : nth a (p : Int) = a.getD p 0 := by
  unfold nth
  rw [show ((p : Int)).toNat = p by omega]

theorem four_cells (w : World) (a b c d : Value) : ∀ j u, [a, b, c, d][j]? = some u → (w.alloc (.cells #[a, b, c, d] 39)).cell? ((⟨w.heap.size, 0, none⟩ : Addr).add j) = some u := by
  intro j u hu
  rw [Addr.add_lit, cell_of_row _ w.heap.size _ #[a, b, c, d] 39 (0, 0) (Go.heap_alloc_new w _)]
  rw [Nat.zero_add]
  simpa using hu

theorem ones (a b c d : Int) : ∀ u ∈ [Value.int .i64 a, .int .i64 b, .int .i64 c, .int .i64 d], u.oneCell' = true := by
  intro u hu
  simp at hu
  rcases hu with rfl | rfl | rfl | rfl <;> rfl

/-- What slide leaves. -/
def SlPost (za zb : List Int) (es : List Ed) (w : World) (e : Ending) (w' : World) : Prop := ∃ v S, e = .returned v ∧ OwE w' w.heap.size v S.length S ∧ Good za zb es S ∧ Below w.heap.size w w'

end Go.Proofs.Qxb6602961a.Wk
