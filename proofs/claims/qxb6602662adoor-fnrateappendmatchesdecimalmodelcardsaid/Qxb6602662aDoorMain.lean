import Derived.Test.Qxb6602662aDoorClone
namespace Go.Proofs.Qxb6602662aDoor.Wk
open Go.ChangeShapes Go.WideShapes Go.ChangeAt Go.RowKit
set_option linter.unusedVariables false

/-- The cells of an owned row of bytes. -/
theorem own_cell {w : World} {B g n c : Nat} {zs : List Int} (h : w.ownsRow B 5 1 (.slice (some ⟨g, 0, none⟩) n c) n (zs.map (Value.int .u8))) (j : Nat) (hj : j < n) :
    w.cell? ⟨g, j, none⟩ = some (.int .u8 (zs.getD j 0)) := by
  have hl : zs.length = n := by simpa using h.1
  rw [h.cellAt j (by omega)]
  simp [List.getD, show j < zs.length by omega]

theorem dn2 (w : World) (m k : Nat) : (w.drewN m).drewN k = w.drewN (m + k) := by simp [World.drewN, Nat.add_assoc]

theorem getD_left (zs ts : List Int) (k : Nat) (h : k < zs.length) : (zs ++ ts).getD k 0 = zs.getD k 0 := by
  simp [List.getD, List.getElem?_append, h]
theorem getD_right (zs ts : List Int) (k : Nat) : (zs ++ ts).getD (zs.length + k) 0 = ts.getD k 0 := by
  rw [List.getD, List.getElem?_append_right (by omega), Nat.add_sub_cancel_left, List.getD]

set_option maxHeartbeats 800000 in
theorem main_core (r : Int) (ts : List Int) (ht0 : 0 < ts.length) (ht1 : ts.length ≤ 64)
    (hA : ∀ (w1 : World) (sv : Value) (n : Nat) (xs : List Value), Full w1 sv n xs → n ≤ 1048576 → Lib.TabIs Tryd.prog w1 tabName .u64 Lib.pow10Tab →
      Calls Tryd.prog 7 #[.int .i64 r, sv] w1 fun e w' => ∃ v', e = .returned v' ∧ w'.ownsRow w1.heap.size 5 1 v' (xs ++ ts.map (Value.int .u8)).length (xs ++ ts.map (Value.int .u8)) ∧ Below w1.heap.size w1 w')
    (hM : ∀ (w1 : World), Calls Tryd.prog 8 #[.int .i64 r] w1 fun e w' => ∃ v', e = .returned v' ∧ w'.ownsRow w1.heap.size 5 1 v' (ts.map (Value.int .u8)).length (ts.map (Value.int .u8)) ∧ Below w1.heap.size w1 w')
    (ai : Option Addr) (n cap : Nat) (zs : List Int) (w : World) (hz : Rd 0 w ai n zs) (hn : n ≤ 65536)
    (htab : Lib.TabIs Tryd.prog w tabName .u64 Lib.pow10Tab) :
    Calls Tryd.prog 3 #[.int .i64 r, .slice ai n cap] w fun e w' => e = .returned (.bool true) ∧ Below w.heap.size w w' := by
  have C1 := hid (clone_any ai n cap zs w hz (by omega))
  have HA := hid hA
  have HM := hid hM
  have HT := hid (Lib.tabBelow_of_tabIs htab)
  have HZL := hid hz.1
  clear hA hM htab hz
  go_enter Tryd.func3, Tryd.ntmps3
  go_wp2_with (go_at_call 5; go_in)
  refine (Hid.out C1).mono ?_
  rintro e w1 ⟨ab, rfl, hr1, hb1⟩
  have HR1 := hid hr1
  clear hr1
  go_wp2_with fail
  refine (clone_any ab n n zs w1 ⟨HR1.out.1, HR1.out.2.1, fun h => by obtain ⟨b, off, e, _, h1, h2⟩ := HR1.out.2.2 h; exact ⟨b, off, e, Nat.zero_le _, h1, h2⟩⟩ (by omega)).mono ?_
  rintro e w2 ⟨aa, rfl, hr2, hb2⟩
  have HR1' := hid (HR1.out.later hb2)
  have HR2 := hid hr2
  have hw2 : Below w.heap.size w w2 := hb1.trans (hb2.mono hb1.size)
  clear hr2 HR1
  go_wp2_with fail
  refine (Hid.out HA w2 _ n _ HR2.out.full (by omega) (HT.out w2 hw2)).mono ?_
  rintro e w3 ⟨vo, rfl, ho3, hb3⟩
  have HR1 := hid (HR1'.out.later hb3)
  have HR2' := hid (HR2.out.later hb3)
  have hw3 : Below w.heap.size w w3 := hw2.trans (hb3.mono hw2.size)
  clear HR1' HR2
  rw [← List.map_append] at ho3
  simp only [List.length_map, List.length_append, HZL.out] at ho3
  obtain ⟨g, co, rfl, hg1, hg2⟩ := own_shape ho3 (by omega)
  have HO3 := hid ho3
  clear ho3
  unfold maxLen at hg2
  go_wp2_with fail
  refine (Hid.out HM w3).mono ?_
  rintro e w4 ⟨vw, rfl, ho4, hb4⟩
  simp only [List.length_map] at ho4
  obtain ⟨g', cw, rfl, hg1', hg2'⟩ := own_shape ho4 (by omega)
  unfold maxLen at hg2'
  have RB := hid (HR1.out.later hb4)
  have RA := hid (HR2'.out.later hb4)
  have HC3 := hid fun (j : Nat) (hj : j < n + ts.length) => (hb4.cell (p := ⟨g, j, none⟩) ((HO3.out.lt g rfl).2)).trans (own_cell HO3.out j hj)
  have HC4 := hid (own_cell ho4)
  have HW4 := hid (hw3.trans (hb4.mono hw3.size))
  clear HR1 HR2' HO3 ho4 hb4 hw3 hw2 hb3 hb2 hb1 HA HM HT C1
  go_wp2
  go_loopw [8] (fun i wr => ∃ k m : Nat, k ≤ n ∧ i = .int .i64 k ∧ wr = w4.drewN m) (fun i _ => n - (intOf i).toNat)
  case atStart => exact ⟨0, 0, by omega, rfl, rfl⟩
  case round =>
    obtain ⟨k, m, hk, rfl, rfl⟩ := hrel
    by_cases hlt : k < n
    · obtain ⟨bb, ob, rfl, _, _, hcb⟩ := RB.out.2.2 (by omega)
      obtain ⟨ba, oa, rfl, _, _, hca⟩ := RA.out.2.2 (by omega)
      have q1 := HC3.out k (by omega)
      rw [getD_left _ _ _ (by have := HZL.out; omega)] at q1
      have q2 := hcb k hlt
      have q3 := hca k hlt
      obtain ⟨z, ez⟩ : ∃ z, z = zs.getD k 0 := ⟨_, rfl⟩
      rw [← ez] at q1 q2 q3
      clear ez hcb hca
      have i1 : (k : Int) < (n : Int) + (ts.length : Int) := by omega
      have i2 : (k : Int) < (n : Int) := by omega
      go_wp2
      go_quiet (fail)
      go_wp2
      go_roundw
      case rel => exact ⟨k + 1, _, by omega, by go_num, rfl⟩
      case measure => simp [intOf]; omega
    · go_wp2
      go_loopw [9] (fun i wr => ∃ k m : Nat, k ≤ ts.length ∧ i = .int .i64 k ∧ wr = w4.drewN m) (fun i _ => ts.length - (intOf i).toNat)
      case atStart => exact ⟨0, m, by omega, rfl, rfl⟩
      case round =>
        obtain ⟨k', m', hk', rfl, rfl⟩ := hrel
        by_cases hlt' : k' < ts.length
        · have q1 := HC3.out (n + k') (by omega)
          rw [show n + k' = zs.length + k' by rw [HZL.out], getD_right, HZL.out] at q1
          have q2 := HC4.out k' hlt'
          obtain ⟨z, ez⟩ : ∃ z, z = ts.getD k' 0 := ⟨_, rfl⟩
          rw [← ez] at q1 q2
          clear ez
          have i1 : (n : Int) + (k' : Int) < (n : Int) + (ts.length : Int) := by omega
          have i2 : (k' : Int) < (ts.length : Int) := by omega
          go_wp2
          go_quiet (fail)
          go_wp2
          go_roundw
          case rel => exact ⟨k' + 1, _, by omega, by go_num, rfl⟩
          case measure => simp [intOf]; omega
        · go_wp2
          go_ret
          exact ⟨rfl, below_drewN HW4.out _⟩

end Go.Proofs.Qxb6602662aDoor.Wk
