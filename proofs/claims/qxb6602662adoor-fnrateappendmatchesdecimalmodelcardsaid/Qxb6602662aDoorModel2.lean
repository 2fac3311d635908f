import Derived.Test.Qxb6602662aDoorModel
namespace Go.Proofs.Qxb6602662aDoor.Wk
open Go.ChangeShapes Go.WideShapes Go.ChangeAt Go.RowKit
set_option linter.unusedVariables false

def sgn : List Value := [.int .u8 45]

set_option maxHeartbeats 800000 in
theorem model_neg (u : Nat) (hu : u ≤ 9223372036854775807) (hu1 : 1 ≤ u) (w : World) :
    Calls Tryd.prog 8 #[.int .i64 (-(u : Int))] w fun e w' => ∃ v', e = .returned v' ∧ w'.ownsRow w.heap.size 5 1 v' ([Value.int .u8 45] ++ rateCells u).length ([Value.int .u8 45] ++ rateCells u) ∧ Below w.heap.size w w' := by
  obtain ⟨i0, hi, hz0, hz1, hz2⟩ := info_parts info5
  have i1 : (u : Int) ≤ 9223372036854775807 := by omega
  have i2 : 1 ≤ (u : Int) := by omega
  have i3 : (-(u : Int) == -9223372036854775808) = false := by simp; omega
  have HU := hid hu
  clear hu hu1
  go_enter Tryd.func8, Tryd.ntmps8
  go_wp2
  go_loopw [4, 6] (fun uv nv wr => ∃ k q : Nat, k ≤ 19 ∧ q ≤ 9223372036854775807 ∧ Hid (q = u / 10 ^ k) ∧ Hid (k ≤ 3 ∨ 10 ^ (k - 1) ≤ u) ∧ uv = .int .u64 q ∧ nv = .int .i64 k ∧ wr = w.alloc (.cells (revArr u k) 33))
    (fun _ n _ => 24 - (intOf n).toNat)
  case atStart =>
    exact ⟨0, u, by omega, HU.out, by show u = u / 10 ^ 0; simp, Or.inl (by omega), rfl, rfl, rfl⟩
  case round =>
    obtain ⟨k, q, hk, hq, HQ, HG, rfl, rfl, rfl⟩ := hrel
    have iq : (q : Int) ≤ 9223372036854775807 := by omega
    by_cases hc : 0 < q ∨ k < 3
    · have HK : Hid (k < 19) := by
        rcases hc with h | h
        · exact pow_bound HU.out (by rw [← HQ.out]; exact h)
        · exact (show k < 19 by omega)
      have HG' := hid (show k + 1 ≤ 3 ∨ 10 ^ (k + 1 - 1) ≤ u by
        rcases hc with h | h
        · right
          rw [Nat.add_sub_cancel]
          have h1 : u / 10 ^ k ≠ 0 := by have := HQ.out; omega
          exact Nat.le_of_not_lt fun h2 => h1 (Nat.div_eq_of_lt h2)
        · left; omega)
      have k19 := HK.out
      have hA := revArr_at u k k (by omega)
      rw [if_neg (by omega)] at hA
      have HS := hid (revArr_step u k (by omega))
      obtain ⟨A, eA⟩ : ∃ A, A = revArr u k := ⟨_, rfl⟩
      rw [← eA] at hA HS
      rw [← eA]
      clear eA
      by_cases h0 : 0 < q
      · clear hc
        go_wp2
        go_roundw
        case rel =>
          refine ⟨k + 1, q / 10, by omega, by omega, ?_, HG'.out, by go_num, by go_num, ?_⟩
          · show q / 10 = u / 10 ^ (k + 1)
            rw [HQ.out, Nat.div_div_eq_div_mul, Nat.pow_succ]
          · rw [HS.out _ (dg_is HQ.out)]
        case measure => simp [intOf]; omega
      · have h3 : k < 3 := by omega
        clear hc
        go_wp2
        go_roundw
        case rel =>
          refine ⟨k + 1, q / 10, by omega, by omega, ?_, HG'.out, by go_num, by go_num, ?_⟩
          · show q / 10 = u / 10 ^ (k + 1)
            rw [HQ.out, Nat.div_div_eq_div_mul, Nat.pow_succ]
          · rw [HS.out _ (dg_is HQ.out)]
        case measure => simp [intOf]; omega
    · have h0 : ¬ 0 < q := by omega
      have h3 : 3 ≤ k := by omega
      clear hc
      have HW := hid (downs_whole u k h3 (by have := HQ.out; exact Nat.lt_of_div_eq_zero (Nat.pow_pos (by decide)) (by omega)) HG.out)
      have HR := hid (revArr_at u k)
      obtain ⟨A, eA⟩ : ∃ A, A = revArr u k := ⟨_, rfl⟩
      rw [← eA] at HR
      rw [← eA]
      clear eA HQ HG hq iq
      go_wp2_with (first
        | (at_make; refine wpList_make_own _ rfl _ _ 22 rfl (w.heap.size + 1) 5 i0 (.int .u8 0) 1 Tryd.underlying22 hi hz0 hz1 .i64 .i64 28 28 rfl rfl rfl (by rw [hz2]; decide) (by decide) (by simp) ?_; intro w1 hown1 hgrow1; have hb0 := hid ((Below.refl (w.heap.size + 1) (w.alloc (.cells A 33))).grown hgrow1 (by simp) (by intro k hk; cases hk)); simp only [World.size_alloc] at hown1; have HO0 := hid hown1; clear hown1 hgrow1; have hsz0 := hb0.out.size; simp only [World.size_alloc] at hsz0)
        | (at_builtin; refine wpList_append_own _ rfl (.tmp 38) (.tmp 39) 22 rfl (w.heap.size + 1) 5 i0 (.int .u8 0) 1 1 Tryd.underlying22 hi hz0 hz1 hz2 rfl (by decide) _ _ _ rfl (HO0.out.alloc _) ⟨w1.heap.size, 0, none⟩ 1 1 [.int .u8 45] rfl rfl (one_cell _ _) (by intro u hu; simp at hu; subst hu; rfl) (by unfold maxLen; omega) (by omega) (by simp; omega) ?_; intro v1 w2 hown2 hgrow2 _; have hb1 := hid ((hb0.out.alloc (by omega) _).grown hgrow2 (by simp; omega) (fun k hk => (HO0.out.lt k hk).1)); have HO1 := hid hown2; clear hown2 hgrow2))
      go_loopw [7, 8] (fun ov iv wr => ∃ p : Nat, 1 ≤ p ∧ p ≤ k - 1 ∧ iv = .int .i64 p ∧ Hid (wr.ownsRow (w.heap.size + 1) 5 1 ov ((sgn ++ downs u k (k - 1 - p)).length) (sgn ++ downs u k (k - 1 - p))) ∧ Hid (Below (w.heap.size + 1) (w.alloc (.cells A 33)) wr))
        (fun _ i _ => (intOf i).toNat)
      case atStart =>
        refine ⟨k - 1, by omega, by omega, by go_num, ?_, hb1⟩
        rw [Nat.sub_self]
        exact HO1
      case round =>
        obtain ⟨p, hp1, hpk, rfl, HO, HB⟩ := hrel
        have hcell : ∀ j, j < k → wr.cell? ⟨w.heap.size, j, none⟩ = some (dgI u j) := fun j hj => by
          rw [HB.out.cell (by simp), World.cell?_alloc_new, HR.out j (by omega), if_pos hj]
        have HC := hid hcell
        clear hcell
        by_cases h2 : 2 ≤ p
        · obtain ⟨c, hc⟩ : ∃ c, dgI u p = .int .u8 c := ⟨_, rfl⟩
          have cp := HC.out p (by omega)
          rw [hc] at cp
          have HCC := hid hc
          clear hc
          have hsz := HB.out.size
          simp only [World.size_alloc] at hsz
          have HL := hid (downs_length u k (k - 1 - p))
          go_wp2_with (at_builtin; refine wpList_append_own _ rfl _ _ 22 rfl (w.heap.size + 1) 5 i0 (.int .u8 0) 1 1 Tryd.underlying22 hi hz0 hz1 hz2 rfl (by decide) _ _ _ rfl (HO.out.alloc _) ⟨wr.heap.size, 0, none⟩ 1 1 [.int .u8 c] rfl rfl (one_cell _ _) (by intro u hu; simp at hu; subst hu; rfl) (by rw [List.length_append, HL.out]; unfold maxLen; simp [sgn]; omega) (by rw [List.length_append, HL.out]; simp [sgn]; omega) (by simp; omega) ?_; intro v' w2 hown2 hgrow2 _)
          have R1 := hid (show w2.ownsRow (w.heap.size + 1) 5 1 v' ((sgn ++ downs u k (k - 1 - (p - 1))).length) (sgn ++ downs u k (k - 1 - (p - 1))) by
            have e1 : k - 1 - (p - 1) = k - 1 - p + 1 := by omega
            have e2 : k - 1 - (k - 1 - p) = p := by omega
            rw [e1, downs_succ, e2, HCC.out, ← List.append_assoc, ← own_len hown2]
            exact hown2)
          have R2 := hid ((HB.out.alloc (by omega) _).grown hgrow2 (by simp; omega) (fun k hk => (HO.out.lt k hk).1))
          clear hown2 hgrow2
          go_wp2
          go_roundw
          case rel => exact ⟨p - 1, by omega, by omega, by go_num, R1, R2⟩
          case measure => simp [intOf]; omega
        · obtain rfl : p = 1 := by omega
          have c0 := HC.out 0 (by omega)
          have c1 := HC.out 1 (by omega)
          rw [dg0] at c0
          rw [dg1] at c1
          have HFR := hid (frac_cells u)
          rw [dg0, dg1] at HFR
          have HRC := hid (show rateCells u = Lib.byteCells (Lib.decDigits (u / 100)) ++ fracCells (u % 100) from rfl)
          obtain ⟨a0, e0⟩ : ∃ a, a = u % 10 := ⟨_, rfl⟩
          obtain ⟨a1, e1⟩ : ∃ a, a = u / 10 % 10 := ⟨_, rfl⟩
          rw [← e0] at c0 HFR
          rw [← e1] at c1 HFR
          have b0 : a0 < 10 := by omega
          have b1 : a1 < 10 := by omega
          clear e0 e1
          have hsz := HB.out.size
          simp only [World.size_alloc] at hsz
          have HL := hid (downs_length u k (k - 1 - 1))
          have HE : Hid (k - 1 - 1 = k - 2) := (by omega : k - 1 - 1 = k - 2)
          by_cases z0 : a0 = 0
          · by_cases z1 : a1 = 0
            · subst z0
              subst z1
              go_wp2
              go_ret
              refine ⟨_, rfl, ?_, ((Below.refl w.heap.size w).alloc (Nat.le_refl _) _).trans (HB.out.mono (by omega))⟩
              have h := HO.out
              rw [HE.out, HW.out] at h
              rw [HRC.out, HFR.out]
              simp only [ne_eq, not_true_eq_false, if_false, List.append_nil]
              exact own_base h (by omega)
            · subst z0
              go_wp2_with (at_builtin; refine wpList_append_own _ rfl _ _ 22 rfl (w.heap.size + 1) 5 i0 (.int .u8 0) 1 1 Tryd.underlying22 hi hz0 hz1 hz2 rfl (by decide) _ _ _ rfl (HO.out.alloc _) ⟨wr.heap.size, 0, none⟩ 2 2 [.int .u8 46, .int .u8 (48 + (a1 : Int))] rfl rfl (two_cells _ _ _) (by intro u hu; simp at hu; rcases hu with rfl | rfl <;> rfl) (by rw [List.length_append, HL.out]; unfold maxLen; simp [sgn]; omega) (by rw [List.length_append, HL.out]; simp [sgn]; omega) (by simp; omega) ?_; intro v' w2 hown3 hgrow3 _)
              go_ret
              have FE : [Value.int .u8 45] ++ rateCells u = sgn ++ downs u k (k - 1 - 1) ++ [.int .u8 46, .int .u8 (48 + (a1 : Int))] := by
                rw [HRC.out, HFR.out, HE.out, HW.out]
                simp [sgn, z1]
              refine ⟨_, rfl, ?_, ?_⟩
              · show World.ownsRow _ w.heap.size 5 1 _ ([Value.int .u8 45] ++ rateCells u).length ([Value.int .u8 45] ++ rateCells u)
                rw [FE, ← own_len hown3]
                exact own_base hown3 (by omega)
              · exact ((((Below.refl w.heap.size w).alloc (Nat.le_refl _) _).trans (HB.out.mono (by omega))).alloc (by omega) _).grown hgrow3 (by simp; omega) (fun k hk => by have := (HO.out.lt k hk).1; omega)
          · have FE : [Value.int .u8 45] ++ rateCells u = sgn ++ downs u k (k - 1 - 1) ++ [.int .u8 46, .int .u8 (48 + (a1 : Int)), .int .u8 (48 + (a0 : Int))] := by
              rw [HRC.out, HFR.out, HE.out, HW.out]
              simp [sgn, z0]
            have HFE := hid FE
            clear FE
            go_wp2_with (at_builtin; refine wpList_append_own _ rfl _ _ 22 rfl (w.heap.size + 1) 5 i0 (.int .u8 0) 1 1 Tryd.underlying22 hi hz0 hz1 hz2 rfl (by decide) _ _ _ rfl (HO.out.alloc _) ⟨wr.heap.size, 0, none⟩ 3 3 [.int .u8 46, .int .u8 (48 + (a1 : Int)), .int .u8 (48 + (a0 : Int))] rfl rfl (three_cells _ _ _ _) (by intro u hu; simp at hu; rcases hu with rfl | rfl | rfl <;> rfl) (by rw [List.length_append, HL.out]; unfold maxLen; simp [sgn]; omega) (by rw [List.length_append, HL.out]; simp [sgn]; omega) (by simp; omega) ?_; intro v' w2 hown3 hgrow3 _)
            go_ret
            have FE := HFE.out
            refine ⟨_, rfl, ?_, ?_⟩
            · show World.ownsRow _ w.heap.size 5 1 _ ([Value.int .u8 45] ++ rateCells u).length ([Value.int .u8 45] ++ rateCells u)
              rw [FE, ← own_len hown3]
              exact own_base hown3 (by omega)
            · exact ((((Below.refl w.heap.size w).alloc (Nat.le_refl _) _).trans (HB.out.mono (by omega))).alloc (by omega) _).grown hgrow3 (by simp; omega) (fun k hk => by have := (HO.out.lt k hk).1; omega)

end Go.Proofs.Qxb6602662aDoor.Wk
