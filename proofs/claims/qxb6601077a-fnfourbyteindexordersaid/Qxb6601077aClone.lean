import Derived.Test.Qxb6601077aWalks2
import Derived.Lib.SliceRun
namespace Go.Proofs.Qxb6601077a.Wk
open Go.ChangeShapes Go.WideShapes Go.ChangeAt Go.RowKit
set_option linter.unusedVariables false

theorem info5 : (Try.prog.info? 5).map (fun i => (i.zero, i.size, i.bytes)) = some (some (.int .u8 0), 1, 1) := by kernel_rfl

theorem isz5 : (Try.prog.info? 5).map (·.size) = some 1 := by kernel_rfl

theorem copy_run (b off n cap : Nat) (zs : List Int) (w w1 : World) (hz : zs.length = n) (hmax : n ≤ maxLen)
    (hc : ∀ j, j < n → w.cell? ⟨b, off + j, none⟩ = some (.int .u8 (zs.getD j 0))) (xs : List Value)
    (hown : w1.ownsRow w.heap.size 5 1 (.slice (some ⟨w.heap.size, 0, none⟩) n n) n xs) (hgrow : w.grownBy w1 none) :
    ∃ w2, (Builtin.copy_ #[28, 28] 3 #[.slice (some ⟨w.heap.size, 0, none⟩) n n, .slice (some ⟨b, off, none⟩) n cap]).run Try.prog w1 = .ok (goInt n) w2 ∧
      w2.ownsRow w.heap.size 5 1 (.slice (some ⟨w.heap.size, 0, none⟩) n n) n (zs.map (Value.int .u8)) ∧ Below w.heap.size w w2 := by
  have hb1 : Below w.heap.size w w1 := (Below.refl _ _).grown hgrow (Nat.le_refl _) (by intro k hk; cases hk)
  rcases hown.2 with ⟨h', _⟩ | ⟨g', cap', cur, h', _, hg, _, _, hcs, htake⟩
  · simp at h'
  simp only [Value.slice.injEq, Option.some.injEq, Addr.mk.injEq, and_true, true_and] at h'
  obtain ⟨rfl, rfl⟩ := h'
  have hlen : (zs.map (Value.int .u8)).length = n := by simpa using hz
  have hsrc : ∀ j v, (zs.map (Value.int .u8))[j]? = some v → w1.cell? ((⟨b, off, none⟩ : Addr).add j) = some v := by
    intro j v hv
    have hj : j < n := by
      have := (List.getElem?_eq_some_iff.1 hv).1
      omega
    have h1 := hc j hj
    have hlt : b < w.heap.size := World.block_lt_of_cell? w _ h1
    rw [Addr.add_lit]
    rw [hb1.cell (by exact hlt), h1]
    rw [← hv]
    simp [List.getD, show j < zs.length by omega]
  have hr := run_copy_row (P := Try.prog) w1 28 28 3 5 w.heap.size 0 n n ⟨b, off, none⟩ n cap cur 5 (zs.map (Value.int .u8)) Try.underlying28 isz5 hg (by rw [hlen]; simp) hsrc (by rw [hlen, hcs]; omega) (ints_oneCell _ _)
  rw [hlen] at hr
  refine ⟨_, hr, ⟨by simpa using hz, .inr ⟨w.heap.size, n, _, rfl, Nat.le_refl _, setRow_heap w1 _ _ _ _ _ hg, Nat.le_refl _, hmax, ?_, ?_⟩⟩, below_setRow hb1 (Nat.le_refl _) _⟩
  · simp; omega
  · have hcl : cur.toList.length = n := by simpa using hcs
    rw [List.take_of_length_le]
    · simp [hcl]
    · simp; omega

set_option maxHeartbeats 400000 in
theorem clone_any (b off n cap : Nat) (zs : List Int) (w : World) (hz : zs.length = n) (hn : n ≤ 1048576)
    (hc : ∀ j, j < n → w.cell? ⟨b, off + j, none⟩ = some (.int .u8 (zs.getD j 0))) :
    Calls Try.prog 15 #[.slice (some ⟨b, off, none⟩) n cap] w fun e w' =>
      e = .returned (.slice (some ⟨w.heap.size, 0, none⟩) n n) ∧
      w'.ownsRow w.heap.size 5 1 (.slice (some ⟨w.heap.size, 0, none⟩) n n) n (zs.map (Value.int .u8)) ∧ Below w.heap.size w w' := by
  have q28 : ∀ (w : World) (a : Option Addr) (n c n' c' : Nat), (binOp .eql 28 (.slice a n c) (.slice none n' c')).run Try.prog w = .ok (.bool a.isNone) w := fun w a n c n' c' => Lib.run_eql_slice_nil w _ _ a n c n' c' Try.underlying28
  obtain ⟨i0, hi, hz0, hz1, hz2⟩ := info_parts info5
  have HC := fun w1 xs => copy_run b off n cap zs w w1 hz (by unfold maxLen; omega) hc xs
  have HC' : Hid _ := HC
  clear hz hc HC
  go_enter Try.func15, Try.ntmps15
  go_wp2_with (at_make; refine wpList_make_full _ rfl _ _ 28 rfl w.heap.size 5 i0 (.int .u8 0) 1 Try.underlying28 hi hz0 hz1 .i64 .i64 _ _ n rfl rfl rfl rfl (by rw [hz2]; omega) (by unfold maxLen; omega) (Nat.le_refl _) ?_; intro w1 hown hgrow; obtain ⟨w2, hcp, hown2, hb2⟩ := HC'.out w1 _ hown hgrow; clear hown hgrow)
  go_ret
  exact ⟨rfl, hown2, hb2⟩
end Go.Proofs.Qxb6601077a.Wk
