import Derived.Test.Qxb6602704aPaint
namespace Go.Proofs.Qxb6602704a.Wk
open Go.ChangeShapes Go.WideShapes Go.ChangeAt Go.RowKit
set_option linter.unusedVariables false

/-- The four sums: m times the colour, the first c of them once more. -/
def sumA (col : List Int) (m c : Nat) : Array Value := ((List.range 4).map fun k => Value.int .i32 ((if k < c then (m : Int) + 1 else (m : Int)) * col.getD k 0)).toArray

theorem sumA_zero (col : List Int) : sumA col 0 0 = #[.int .i32 0, .int .i32 0, .int .i32 0, .int .i32 0] := by
  simp [sumA, List.range_succ]

theorem sumA_at (col : List Int) (m c k : Nat) (hk : k < 4) : (sumA col m c)[k]? = some (.int .i32 ((if k < c then (m : Int) + 1 else (m : Int)) * col.getD k 0)) := by
  simp [sumA, hk]

theorem sumA_ext {A : Array Value} {col : List Int} {m c : Nat} (h : A.size = 4) (he : ∀ k, k < 4 → A[k]? = some (.int .i32 ((if k < c then (m : Int) + 1 else (m : Int)) * col.getD k 0))) : A = sumA col m c := by
  apply Array.ext
  · rw [h]; simp [sumA]
  · intro k h1 h2
    have hk : k < 4 := by omega
    have e1 := he k hk
    have e2 := sumA_at col m c k hk
    rw [← e2] at e1
    rw [Array.getElem?_eq_getElem h1, Array.getElem?_eq_getElem h2] at e1
    exact Option.some.inj e1

theorem sumA_size (col : List Int) (m c : Nat) : (sumA col m c).size = 4 := by simp [sumA]

theorem sumA_set (col : List Int) (m c : Nat) (hc : c < 4) (v : Int) (hv : v = ((m : Int) + 1) * col.getD c 0) : (sumA col m c).setIfInBounds c (.int .i32 v) = sumA col m (c + 1) := by
  subst hv
  apply sumA_ext (by simp [sumA_size])
  intro k hk
  rw [Array.getElem?_setIfInBounds]
  by_cases he : c = k
  · subst he
    rw [if_pos rfl, if_pos (by rw [sumA_size]; exact hc), if_pos (by omega)]
  · rw [if_neg he, sumA_at _ _ _ _ hk]
    by_cases hlt : k < c
    · rw [if_pos hlt, if_pos (by omega)]
    · rw [if_neg hlt, if_neg (by omega)]

theorem sumA_four (col : List Int) (m : Nat) : sumA col m 4 = sumA col (m + 1) 0 := by
  apply sumA_ext (sumA_size _ _ _)
  intro k hk
  rw [sumA_at _ _ _ _ hk, if_pos hk, if_neg (by omega)]
  simp

theorem sumA_same (col : List Int) (m c : Nat) (hc : c < 4) (v : Int) (hv : v = (m : Int) * col.getD c 0) : (sumA col m 0).setIfInBounds c (.int .i32 v) = sumA col m 0 := by
  subst hv
  apply sumA_ext (by simp [sumA_size])
  intro k hk
  rw [Array.getElem?_setIfInBounds]
  by_cases he : c = k
  · subst he
    rw [if_pos rfl, if_pos (by rw [sumA_size]; exact hc), if_neg (by omega)]
  · rw [if_neg he, sumA_at _ _ _ _ hk]

/-- The memory while one line is worked on. -/
structure Ln (wB w2 : World) (gd nd bI : Nat) (inV : Value) (S : Array Value) (ps : List Int) : Prop where
  grow : wB.grownBy w2 (some gd)
  row : Ow w2 gd nd ps
  inn : w2.cell? ⟨bI, 0, none⟩ = some inV
  sum : w2.heap[bI + 1]? = some (.cells S 53 (0, 0))
  big : wB.heap.size ≤ bI
  low : gd < wB.heap.size

theorem Ln.drewN {wB w2 : World} {gd nd bI : Nat} {inV : Value} {S : Array Value} {ps : List Int} (h : Ln wB w2 gd nd bI inV S ps) (n : Nat) : Ln wB (w2.drewN n) gd nd bI inV S ps :=
  ⟨⟨h.grow.os, h.grow.tape, h.grow.output, h.grow.size, h.grow.block⟩, h.row, h.inn, h.sum, h.big, h.low⟩
theorem Ln.drew {wB w2 : World} {gd nd bI : Nat} {inV : Value} {S : Array Value} {ps : List Int} (h : Ln wB w2 gd nd bI inV S ps) : Ln wB w2.drew gd nd bI inV S ps :=
  ⟨⟨h.grow.os, h.grow.tape, h.grow.output, h.grow.size, h.grow.block⟩, h.row, h.inn, h.sum, h.big, h.low⟩

theorem Ln.sumCell {wB w2 : World} {gd nd bI : Nat} {inV : Value} {S : Array Value} {ps : List Int} (h : Ln wB w2 gd nd bI inV S ps) (c : Nat) : w2.cell? ⟨bI + 1, c, none⟩ = S[c]? := cell_of_row w2 (bI + 1) c S 53 (0, 0) h.sum
theorem Ln.sumFrozen {wB w2 : World} {gd nd bI : Nat} {inV : Value} {S : Array Value} {ps : List Int} (h : Ln wB w2 gd nd bI inV S ps) (c : Nat) : w2.frozen? ⟨bI + 1, c, none⟩ = false := frozen_of_row w2 (bI + 1) c S 53 h.sum

theorem Ow.other {w : World} {g n : Nat} {ps : List Int} (h : Ow w g n ps) (a : Addr) (v : Value) (hne : g ≠ a.block) : Ow (w.setCell a v) g n ps := by
  obtain ⟨h1, ⟨h', _⟩ | ⟨g', cap', cur, h', hb', hg', r⟩⟩ := h
  · simp at h'
  · simp only [Value.slice.injEq, Option.some.injEq, Addr.mk.injEq, and_true, true_and] at h'
    obtain ⟨rfl, rfl⟩ := h'
    exact ⟨h1, .inr ⟨g, n, cur, rfl, hb', by rw [Below.heap_setCell _ _ _ _ hne]; exact hg', r⟩⟩

theorem Ln.setSum {wB w2 : World} {gd nd bI : Nat} {inV : Value} {S : Array Value} {ps : List Int} (h : Ln wB w2 gd nd bI inV S ps) (c : Nat) (v : Value) : Ln wB (w2.setCell ⟨bI + 1, c, none⟩ v) gd nd bI inV (S.setIfInBounds c v) ps := by
  have hb := h.big
  have hl := h.low
  refine ⟨⟨h.grow.os, h.grow.tape, h.grow.output, by rw [show (w2.setCell ⟨bI + 1, c, none⟩ v).heap.size = w2.heap.size by simp [World.setCell]]; exact h.grow.size, fun k hk hne => ?_⟩, h.row.other _ _ (by show gd ≠ bI + 1; omega), ?_, heap_setCell_same w2 (bI + 1) c S 53 v h.sum, hb, hl⟩
  · rw [Below.heap_setCell _ _ _ _ (by show k ≠ bI + 1; omega)]
    exact h.grow.block k hk hne
  · rw [World.cell?_of_block (w := w2) (Below.heap_setCell w2 ⟨bI + 1, c, none⟩ v bI (by show bI ≠ bI + 1; omega))]
    exact h.inn

theorem Ln.setRow {wB w2 : World} {gd nd bI : Nat} {inV : Value} {S : Array Value} {ps : List Int} (h : Ln wB w2 gd nd bI inV S ps) (p : Nat) (v : Int) : Ln wB (w2.setCell ⟨gd, p, none⟩ (.int .u8 v)) gd nd bI inV S (ps.set p v) := by
  have hb := h.big
  have hl := h.low
  refine ⟨⟨h.grow.os, h.grow.tape, h.grow.output, by rw [show (w2.setCell ⟨gd, p, none⟩ (.int .u8 v)).heap.size = w2.heap.size by simp [World.setCell]]; exact h.grow.size, fun k hk hne => ?_⟩, (h.row.set p v).1, ?_, ?_, hb, hl⟩
  · rw [Below.heap_setCell _ _ _ _ (by show k ≠ gd; intro e; exact hne (by rw [e]))]
    exact h.grow.block k hk hne
  · rw [World.cell?_of_block (w := w2) (Below.heap_setCell w2 ⟨gd, p, none⟩ (.int .u8 v) bI (by show bI ≠ gd; omega))]
    exact h.inn
  · rw [Below.heap_setCell _ _ _ _ (by show bI + 1 ≠ gd; omega)]
    exact h.sum

/-- The line begins: the two new blocks. -/
theorem Ln.start {wB wr : World} {gd nd : Nat} {ps : List Int} (hg : wB.grownBy wr (some gd)) (hr : Ow wr gd nd ps) (hl : gd < wB.heap.size) (inV : Value) (S : Array Value) :
    Ln wB ((wr.alloc (.cells #[inV] 22)).alloc (.cells S 53)) gd nd wr.heap.size inV S ps := by
  have hs := hg.size
  have hgr : gd < wr.heap.size := hr.lt
  have hb : Below wr.heap.size wr ((wr.alloc (.cells #[inV] 22)).alloc (.cells S 53)) := ((Below.refl _ _).alloc (Nat.le_refl _) _).alloc (by simp) _
  refine ⟨⟨hb.os.trans hg.os, hb.tape.trans hg.tape, hb.output.trans hg.output, Nat.le_trans hs hb.size, fun k hk hne => (hb.block k (by omega)).trans (hg.block k hk hne)⟩, hr.later hb hgr, ?_, ?_, hs, hl⟩
  · go_simp
  · have h := Go.heap_alloc_new (wr.alloc (.cells #[inV] 22)) (.cells S 53)
    rw [show (wr.alloc (.cells #[inV] 22)).heap.size = wr.heap.size + 1 by simp] at h
    exact h

end Go.Proofs.Qxb6602704a.Wk
