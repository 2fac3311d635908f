import Derived.Test.Qxb6602662aDoorBack1
namespace Go.Proofs.Qxb6602662aDoor.Wk
open Go.ChangeShapes Go.WideShapes Go.ChangeAt Go.RowKit
set_option linter.unusedVariables false

set_option maxHeartbeats 1000000 in
theorem back_neg_frac (u : Nat) (hu : u ≤ 9223372036854775807) (hu1 : 1 ≤ u) (hf : u % 100 ≠ 0) (w : World) (htab : Lib.TabIs Tryd.prog w tabName .u64 Lib.pow10Tab) :
    Calls Tryd.prog 4 #[.int .i64 (-(u : Int))] w fun e w' => e = .returned (.bool true) ∧ Below w.heap.size w w' := by
  have HA := hid (append_neg 0 u hu hu1 (.slice none 0 0) [] w (nil_full w) (by omega) htab)
  have i1 : (u : Int) ≤ 9223372036854775807 := by omega
  have i2 : 1 ≤ (u : Int) := by omega
  have i3 : (-(u : Int) == -9223372036854775808) = false := by simp; omega
  have HU := hid hu
  have HFN := hid hf
  clear hu hf htab hu1
  go_enter Tryd.func4, Tryd.ntmps4
  go_wp2_with fail
  refine (Hid.out HA).mono ?_
  rintro e w1 ⟨vo, rfl, ho, hb1⟩
  rw [List.nil_append, rate_bytes] at ho
  rw [show [Value.int .u8 45] ++ Lib.byteCells (rateB u) = Lib.byteCells (45 :: rateB u) from rfl] at ho
  have HWH := hid (whole_is (u / 100) (by have := HU.out; omega))
  have HFR := hid (frac_is (u % 100) HFN.out (by omega))
  obtain ⟨fb, hfb⟩ : ∃ fb, fb = fracB (u % 100) := ⟨_, rfl⟩
  rw [← hfb] at HFR
  obtain ⟨W, hW⟩ : ∃ W, W = Lib.decDigits (u / 100) := ⟨_, rfl⟩
  rw [← hW] at HWH
  have hB : rateB u = W ++ 46 :: fb := by unfold rateB; rw [if_neg HFN.out, ← hfb, ← hW]
  rw [hB] at ho
  have l1 := HWH.out.pos
  have l2 := HWH.out.le
  have m1 := HFR.out.pos
  have m2 := HFR.out.le
  have hN : (Lib.byteCells (45 :: (W ++ 46 :: fb))).length = 1 + (W.length + 1 + fb.length) := by rw [Lib.byteCells_length]; simp; omega
  rw [hN] at ho
  obtain ⟨g, cap, rfl, hc1, hc2⟩ := own_shape ho (by omega)
  unfold maxLen at hc2
  have HC := hid fun (j : Nat) (hj : j < W.length) => (by
    have h := own_byte ho (1 + (j)) (by simp; omega)
    simp only [Nat.add_comm 1 j, List.getElem_cons_succ] at h
    rw [List.getElem_append_left hj] at h
    rw [Nat.add_comm 1 j]
    exact h : w1.cell? ⟨g, 1 + (j), none⟩ = some (.int .u8 (W[j].toNat : Int)))
  have cs := own_byte ho 0 (by simp)
  simp only [List.getElem_cons_zero] at cs
  have cs' : w1.cell? ⟨g, 0, none⟩ = some (.int .u8 45) := cs
  clear cs
  have HCD := hid (show w1.cell? ⟨g, 1 + (W.length), none⟩ = some (.int .u8 46) by
    have h := own_byte ho (1 + (W.length)) (by simp; omega)
    simp only [Nat.add_comm 1 W.length, List.getElem_cons_succ] at h
    rw [List.getElem_append_right (Nat.le_refl _)] at h
    rw [Nat.add_comm 1 W.length]
    simpa using h)
  have HCF := hid fun (j : Nat) (hj : j < fb.length) => (by
    have h := own_byte ho (1 + (W.length + 1 + j)) (by simp; omega)
    simp only [Nat.add_comm 1 (W.length + 1 + j), List.getElem_cons_succ] at h
    rw [List.getElem_append_right (by omega)] at h
    rw [Nat.add_comm 1 (W.length + 1 + j)]
    simpa [show W.length + 1 + j - W.length = j + 1 by omega] using h : w1.cell? ⟨g, 1 + (W.length + 1 + j), none⟩ = some (.int .u8 (fb[j].toNat : Int)))
  clear ho hB hN HA
  have hWd := hid (fun (j : Nat) (hj : j < W.length) => (by have := dec_dig (u / 100) W[j] (by rw [← hW]; exact List.getElem_mem hj); omega : 48 ≤ (W[j].toNat : Int) ∧ (W[j].toNat : Int) ≤ 57))
  have kv1 := hid (run_convert_bytes_back (P := Tryd.prog) w1 22 9 5 ⟨g, 1, none⟩ (cap - 1) W Tryd.underlying22 Tryd.underlying5 Tryd.underlying9 (fun j hj => by rw [Addr.add_lit]; exact HC.out j hj))
  have kv2 := hid (run_convert_bytes_back (P := Tryd.prog) w1 22 9 5 ⟨g, 1 + (W.length + 1), none⟩ ((cap - 1) - (W.length + 1)) fb Tryd.underlying22 Tryd.underlying5 Tryd.underlying9 (fun j hj => by rw [Addr.add_lit]; rw [Nat.add_assoc 1 (W.length + 1) j]; exact HCF.out j hj))
  obtain ⟨t, ht⟩ : ∃ t : ByteArray, t = ⟨fb.toArray⟩ := ⟨_, rfl⟩
  rw [← ht] at kv2 HFR
  obtain ⟨M, hM⟩ : ∃ M, M = fb.length := ⟨_, rfl⟩
  rw [← hM] at m1 m2 HFR kv2 hc1
  obtain ⟨s, hs⟩ : ∃ s : ByteArray, s = ⟨W.toArray⟩ := ⟨_, rfl⟩
  rw [← hs] at kv1 HWH
  obtain ⟨L, hL⟩ : ∃ L, L = W.length := ⟨_, rfl⟩
  have HC' := hid fun (j : Nat) (hj : j < L) => (⟨(W[j]'(by omega)).toNat, HC.out j (by omega), hWd.out j (by omega)⟩ : ∃ z : Int, w1.cell? ⟨g, 1 + (j), none⟩ = some (.int .u8 z) ∧ 48 ≤ z ∧ z ≤ 57)
  rw [← hL] at l1 l2 hc1 HWH kv1 kv2 HCD
  have e3 : W.length + 1 + fb.length = L + 1 + M := by omega
  rw [e3]
  have cd := HC'.out 0 (by omega)
  obtain ⟨z0, c0, d1, d2⟩ := cd
  clear HC hWd hL hW hs hM hfb ht HCF e3
  have HB1 := hid hb1
  clear hb1
  have hz45 : (z0 == 45) = false := by simp; omega
  go_wp2
  go_loop [5, 6] (fun d i => ∃ k : Nat, k ≤ L ∧ i = .int .i64 k ∧ d = .int .i64 ((L : Int) + 1 + (M : Int))) (fun _ i => 100 - (intOf i).toNat)
  case atStart => exact ⟨0, by omega, rfl, rfl⟩
  case round =>
    obtain ⟨k, hk, rfl, rfl⟩ := hrel
    by_cases hlt : k < L
    · obtain ⟨z, cz, e1, e2⟩ := HC'.out k hlt
      go_wp2
      go_round
      case rel => exact ⟨k + 1, by omega, by go_num, rfl⟩
      case measure => simp [intOf]; omega
    · obtain rfl : k = L := by omega
      have ws := HWH.out.size
      have ne := not_empty (s := s) (by omega)
      have cdot := HCD.out
      have fs := HFR.out.size
      have fne := not_empty (s := t) (by omega)
      have k1 := kv1.out
      have k2 := kv2.out
      go_wp2_with fail
      refine (isDigits_out s _ (by omega) ne HWH.out.dig).mono ?_
      rintro e w' ⟨rfl, rfl⟩
      have HD2 := hid (u_back u)
      have f48 : (((t[M - 1]'(by omega)).toNat : Int) == 48) = false := by have := HFR.out.last (M - 1) (by omega) rfl; simpa using this
      by_cases hL1 : 1 < k
      · have s48 : (((s[0]'(by omega)).toNat : Int) == 48) = false := by have := HWH.out.head (by omega) hL1; simpa using this
        go_wp2_with fail
        refine (isDigits_out t _ (by omega) fne HFR.out.dig).mono ?_
        rintro e w' ⟨rfl, rfl⟩
        go_wp2_with fail
        refine (hun_out s t (u / 100) (u % 100 / 10) (u % 100 % 10) _ (by omega) HWH.out.dig HWH.out.val (by rw [HD2.out]; exact HU.out) HFR.out.frac).mono ?_
        rintro e w' ⟨rfl, rfl⟩
        rw [HD2.out]
        go_wp2
        go_ret
        exact ⟨rfl, HB1.out⟩
      · have hL2 : ¬ (1 : Int) < (k : Int) := by omega
        go_wp2_with fail
        refine (isDigits_out t _ (by omega) fne HFR.out.dig).mono ?_
        rintro e w' ⟨rfl, rfl⟩
        go_wp2_with fail
        refine (hun_out s t (u / 100) (u % 100 / 10) (u % 100 % 10) _ (by omega) HWH.out.dig HWH.out.val (by rw [HD2.out]; exact HU.out) HFR.out.frac).mono ?_
        rintro e w' ⟨rfl, rfl⟩
        rw [HD2.out]
        go_wp2
        go_ret
        exact ⟨rfl, HB1.out⟩

set_option maxHeartbeats 1000000 in
theorem back_neg_whole (u : Nat) (hu : u ≤ 9223372036854775807) (hu1 : 1 ≤ u) (hf : u % 100 = 0) (w : World) (htab : Lib.TabIs Tryd.prog w tabName .u64 Lib.pow10Tab) :
    Calls Tryd.prog 4 #[.int .i64 (-(u : Int))] w fun e w' => e = .returned (.bool true) ∧ Below w.heap.size w w' := by
  have HA := hid (append_neg 0 u hu hu1 (.slice none 0 0) [] w (nil_full w) (by omega) htab)
  have i1 : (u : Int) ≤ 9223372036854775807 := by omega
  have i2 : 1 ≤ (u : Int) := by omega
  have i3 : (-(u : Int) == -9223372036854775808) = false := by simp; omega
  have HU := hid hu
  have HFN := hid hf
  clear hu hf htab hu1
  go_enter Tryd.func4, Tryd.ntmps4
  go_wp2_with fail
  refine (Hid.out HA).mono ?_
  rintro e w1 ⟨vo, rfl, ho, hb1⟩
  rw [List.nil_append, rate_bytes] at ho
  rw [show [Value.int .u8 45] ++ Lib.byteCells (rateB u) = Lib.byteCells (45 :: rateB u) from rfl] at ho
  have HWH := hid (whole_is (u / 100) (by have := HU.out; omega))
  obtain ⟨W, hW⟩ : ∃ W, W = Lib.decDigits (u / 100) := ⟨_, rfl⟩
  rw [← hW] at HWH
  have hB : rateB u = W := by unfold rateB; rw [if_pos HFN.out, ← hW, List.append_nil]
  rw [hB] at ho
  have l1 := HWH.out.pos
  have l2 := HWH.out.le
  have hN : (Lib.byteCells (45 :: (W))).length = 1 + (W.length) := by rw [Lib.byteCells_length]; simp; omega
  rw [hN] at ho
  obtain ⟨g, cap, rfl, hc1, hc2⟩ := own_shape ho (by omega)
  unfold maxLen at hc2
  have HC := hid fun (j : Nat) (hj : j < W.length) => (by
    have h := own_byte ho (1 + (j)) (by simp; omega)
    simp only [Nat.add_comm 1 j, List.getElem_cons_succ] at h
    skip
    rw [Nat.add_comm 1 j]
    exact h : w1.cell? ⟨g, 1 + (j), none⟩ = some (.int .u8 (W[j].toNat : Int)))
  have cs := own_byte ho 0 (by simp)
  simp only [List.getElem_cons_zero] at cs
  have cs' : w1.cell? ⟨g, 0, none⟩ = some (.int .u8 45) := cs
  clear cs
  clear ho hB hN HA
  have hWd := hid (fun (j : Nat) (hj : j < W.length) => (by have := dec_dig (u / 100) W[j] (by rw [← hW]; exact List.getElem_mem hj); omega : 48 ≤ (W[j].toNat : Int) ∧ (W[j].toNat : Int) ≤ 57))
  have kv1 := hid (run_convert_bytes_back (P := Tryd.prog) w1 22 9 5 ⟨g, 1, none⟩ (cap - 1) W Tryd.underlying22 Tryd.underlying5 Tryd.underlying9 (fun j hj => by rw [Addr.add_lit]; exact HC.out j hj))
  obtain ⟨s, hs⟩ : ∃ s : ByteArray, s = ⟨W.toArray⟩ := ⟨_, rfl⟩
  rw [← hs] at kv1 HWH
  obtain ⟨L, hL⟩ : ∃ L, L = W.length := ⟨_, rfl⟩
  have HC' := hid fun (j : Nat) (hj : j < L) => (⟨(W[j]'(by omega)).toNat, HC.out j (by omega), hWd.out j (by omega)⟩ : ∃ z : Int, w1.cell? ⟨g, 1 + (j), none⟩ = some (.int .u8 z) ∧ 48 ≤ z ∧ z ≤ 57)
  rw [← hL] at l1 l2 hc1 HWH kv1
  rw [← hL]
  have cd := HC'.out 0 (by omega)
  obtain ⟨z0, c0, d1, d2⟩ := cd
  clear HC hWd hL hW hs
  have HB1 := hid hb1
  clear hb1
  have hz45 : (z0 == 45) = false := by simp; omega
  go_wp2
  go_loop [5, 6] (fun d i => ∃ k : Nat, k ≤ L ∧ i = .int .i64 k ∧ d = .int .i64 ((L : Int))) (fun _ i => 100 - (intOf i).toNat)
  case atStart => exact ⟨0, by omega, rfl, rfl⟩
  case round =>
    obtain ⟨k, hk, rfl, rfl⟩ := hrel
    by_cases hlt : k < L
    · obtain ⟨z, cz, e1, e2⟩ := HC'.out k hlt
      go_wp2
      go_round
      case rel => exact ⟨k + 1, by omega, by go_num, rfl⟩
      case measure => simp [intOf]; omega
    · obtain rfl : k = L := by omega
      have ws := HWH.out.size
      have ne := not_empty (s := s) (by omega)
      have k1 := kv1.out
      go_wp2_with fail
      refine (isDigits_out s _ (by omega) ne HWH.out.dig).mono ?_
      rintro e w' ⟨rfl, rfl⟩
      have HD2 := hid (u_back u)
      by_cases hL1 : 1 < k
      · have s48 : (((s[0]'(by omega)).toNat : Int) == 48) = false := by have := HWH.out.head (by omega) hL1; simpa using this
        go_wp2_with fail
        refine (hun_out s ByteArray.empty (u / 100) (u % 100 / 10) (u % 100 % 10) _ (by omega) HWH.out.dig HWH.out.val (by rw [HD2.out]; exact HU.out) (frac_none _ HFN.out)).mono ?_
        rintro e w' ⟨rfl, rfl⟩
        rw [HD2.out]
        go_wp2
        go_ret
        exact ⟨rfl, HB1.out⟩
      · have hL2 : ¬ (1 : Int) < (k : Int) := by omega
        go_wp2_with fail
        refine (hun_out s ByteArray.empty (u / 100) (u % 100 / 10) (u % 100 % 10) _ (by omega) HWH.out.dig HWH.out.val (by rw [HD2.out]; exact HU.out) (frac_none _ HFN.out)).mono ?_
        rintro e w' ⟨rfl, rfl⟩
        rw [HD2.out]
        go_wp2
        go_ret
        exact ⟨rfl, HB1.out⟩

end Go.Proofs.Qxb6602662aDoor.Wk
