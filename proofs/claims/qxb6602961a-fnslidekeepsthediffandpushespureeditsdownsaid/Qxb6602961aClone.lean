import Derived.Test.Qxb6602961aMem
namespace Go.Proofs.Qxb6602961a.Wk
open Go.ChangeShapes Go.WideShapes Go.ChangeAt Go.RowKit
set_option linter.unusedVariables false

theorem info3 : (Try.prog.info? 3).map (fun i => (i.zero, i.size, i.bytes)) = some (some (.int .i64 0), 1, 8) := by kernel_rfl

/-- A row of ints that the call itself has made: block g, n numbers, no spare room. -/
def Ow (w : World) (g n : Nat) (ps : List Int) : Prop := w.ownsRow g 3 1 (.slice (some ⟨g, 0, none⟩) n n) n (ps.map (Value.int .i64))

theorem Ow.len {w : World} {g n : Nat} {ps : List Int} (h : Ow w g n ps) : ps.length = n := by simpa using h.1

theorem Ow.cell {w : World} {g n : Nat} {ps : List Int} (h : Ow w g n ps) (j : Nat) (hj : j < n) : w.cell? ⟨g, j, none⟩ = some (.int .i64 (ps.getD j 0)) := by
  have hl := h.len
  rw [World.ownsRow.cellAt h j (by omega)]
  simp [List.getD, show j < ps.length by omega]

theorem Ow.frozen {w : World} {g n : Nat} {ps : List Int} (h : Ow w g n ps) (j : Nat) : w.frozen? ⟨g, j, none⟩ = false := World.ownsRow.frozenAt h j

theorem Ow.lt {w : World} {g n : Nat} {ps : List Int} (h : Ow w g n ps) : g < w.heap.size := (World.ownsRow.lt h g rfl).2

theorem Ow.set {w : World} {g n : Nat} {ps : List Int} (h : Ow w g n ps) (j : Nat) (v : Int) : Ow (w.setCell ⟨g, j, none⟩ (.int .i64 v)) g n (ps.set j v) ∧ w.grownBy (w.setCell ⟨g, j, none⟩ (.int .i64 v)) (some g) := by
  have h2 := World.ownsRow.stored h j (.int .i64 v)
  rw [← List.map_set] at h2
  exact h2

theorem Ow.rd {w : World} {g n : Nat} {ps : List Int} (h : Ow w g n ps) : Rd w (some ⟨g, 0, none⟩) n ps :=
  ⟨h.len, (fun e => by cases e), fun _ => ⟨g, 0, rfl, h.lt, fun j hj => by rw [Nat.zero_add]; exact h.cell j hj⟩⟩

theorem getD_set (ps : List Int) (j k : Nat) (v : Int) (hj : j < ps.length) : (ps.set j v).getD k 0 = if k = j then v else ps.getD k 0 := by
  simp only [List.getD, List.getElem?_set]
  by_cases h : j = k
  · subst h
    simp [hj]
  · rw [if_neg h, if_neg (fun e => h e.symm)]

theorem list_eq (ps zs : List Int) (n : Nat) (h1 : ps.length = n) (h2 : zs.length = n) (h : ∀ j, j < n → ps.getD j 0 = zs.getD j 0) : ps = zs := by
  apply List.ext_getElem (by omega)
  intro j a b
  have := h j (by omega)
  simpa [List.getD, a, b] using this

set_option maxHeartbeats 400000 in
theorem clone_some (a : Addr) (n cap : Nat) (zs : List Int) (w : World) (hz : Rd w (some a) n zs) (hn : n ≤ 1048576) :
    Calls Try.prog 8 #[.slice (some a) n cap] w fun e w' => e = .returned (.slice (some ⟨w.heap.size, 0, none⟩) n n) ∧ Ow w' w.heap.size n zs ∧ Below w.heap.size w w' := by
  have q22 : ∀ (w : World) (a : Option Addr) (n c n' c' : Nat), (binOp .eql 22 (.slice a n c) (.slice none n' c')).run Try.prog w = .ok (.bool a.isNone) w := fun w a n c n' c' => Lib.run_eql_slice_nil w _ _ a n c n' c' Try.underlying22
  obtain ⟨i0, hi, hz0, hz1, hz2⟩ := info_parts info3
  have HZ := hid hz
  clear hz
  go_enter Try.func8, Try.ntmps8
  go_wp2_with (at_make; refine wpList_make_full _ rfl _ _ 22 rfl w.heap.size 3 i0 (.int .i64 0) 1 Try.underlying22 hi hz0 hz1 .i64 .i64 _ _ n rfl rfl rfl rfl (by rw [hz2]; omega) (by unfold maxLen; omega) (Nat.le_refl _) ?_; intro w1 hown hgrow; have HO := hid hown; have HB := hid ((Below.refl w.heap.size w).grown hgrow (Nat.le_refl _) (by intro k hk; cases hk)); clear hown hgrow)
  have HO1 : Hid (Ow w1 w.heap.size n (List.replicate n 0)) := by
    have h := HO.out
    rw [show (Value.int IntKind.i64 0).cells = #[Value.int .i64 0] from rfl, toList_madeCells_one, Nat.mul_one] at h
    show World.ownsRow _ _ _ _ _ _ _
    rw [List.map_replicate]
    exact h
  clear HO
  go_loopw [4] (fun iv wr => ∃ (k : Nat) (ps : List Int), k ≤ n ∧ iv = .int .i64 k ∧ Hid (Ow wr w.heap.size n ps) ∧ Hid (Below w.heap.size w wr) ∧ Hid (∀ j, j < k → ps.getD j 0 = zs.getD j 0)) (fun i _ => n - (intOf i).toNat)
  case atStart => exact ⟨0, _, by omega, rfl, HO1, HB, fun _ h => by omega⟩
  case round =>
    obtain ⟨k, ps, hk, rfl, HW, HB2, HE⟩ := hrel
    by_cases hlt : k < n
    · obtain ⟨b, off, ea, hlt2, hc⟩ := HZ.out.2.2 (by omega)
      cases ea
      have q1 : wr.cell? ⟨b, off + k, none⟩ = some (.int .i64 (zs.getD k 0)) := (HB2.out.cell (p := ⟨b, off + k, none⟩) hlt2).trans (hc k hlt)
      have q2 := HW.out.cell k hlt
      have q3 := HW.out.frozen k
      clear hc
      obtain ⟨z, ez⟩ : ∃ z, z = zs.getD k 0 := ⟨_, rfl⟩
      rw [← ez] at q1
      have EZ := hid ez
      clear ez
      have b1 : (k : Int) < (n : Int) := by omega
      have HS := hid (HW.out.set k z)
      have R2 := hid (HB2.out.setCell (p := ⟨w.heap.size, k, none⟩) (Nat.le_refl _) (.int .i64 z))
      have R3 := hid (show ∀ j, j < k + 1 → (ps.set k z).getD j 0 = zs.getD j 0 by
        intro j hj
        rw [getD_set _ _ _ _ (by have := HW.out.len; omega)]
        by_cases he : j = k
        · rw [if_pos he, EZ.out, he]
        · rw [if_neg he]; exact HE.out j (by omega))
      go_wp2
      go_roundw
      case rel => exact ⟨k + 1, _, by omega, by go_num, HS.out.1, R2, R3⟩
      case measure => simp [intOf]; omega
    · have e : ps = zs := list_eq ps zs n HW.out.len HZ.out.1 (fun j hj => HE.out j (by omega))
      subst e
      go_wp2
      go_ret
      exact ⟨rfl, HW.out, HB2.out⟩

theorem clone_nil (w : World) : Calls Try.prog 8 #[.slice none 0 0] w fun e w' => e = .returned (.slice none 0 0) ∧ w' = w := by
  have q22 : ∀ (w : World) (a : Option Addr) (n c n' c' : Nat), (binOp .eql 22 (.slice a n c) (.slice none n' c')).run Try.prog w = .ok (.bool a.isNone) w := fun w a n c n' c' => Lib.run_eql_slice_nil w _ _ a n c n' c' Try.underlying22
  go_enter Try.func8, Try.ntmps8
  go_wp2
  go_ret
  exact ⟨rfl, rfl⟩

/-- The copy: a slice that reads the same, in memory below which nothing has turned. -/
theorem clone_any (a : Option Addr) (n cap : Nat) (zs : List Int) (w : World) (hz : Rd w a n zs) (hc : a = none → cap = 0) (hn : n ≤ 1048576) :
    Calls Try.prog 8 #[.slice a n cap] w fun e w' => ∃ ao c, e = .returned (.slice ao n c) ∧ Rd w' ao n zs ∧ Below w.heap.size w w' := by
  cases a with
  | some a => exact (clone_some a n cap zs w hz hn).mono fun e w' ⟨h1, h2, h3⟩ => ⟨_, _, h1, h2.rd, h3⟩
  | none =>
    obtain rfl := hz.2.1 rfl
    obtain rfl := hc rfl
    exact (clone_nil w).mono fun e w' ⟨h1, h2⟩ => ⟨none, 0, h1, by subst h2; exact hz, by subst h2; exact Below.refl _ _⟩

end Go.Proofs.Qxb6602961a.Wk
