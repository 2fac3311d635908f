import Derived.Test.Qxb6602961aBx
import Derived.WalkMore
namespace Go.Proofs.Qxb6602961a.Wk
open Go.ChangeShapes Go.WideShapes Go.ChangeAt Go.RowKit
set_option linter.unusedVariables false

set_option maxHeartbeats 12800000 in
set_option maxRecDepth 100000 in
theorem slide_any (eo aa ab : Option Addr) (n c na ca nb cb : Nat) (es : List Ed) (za zb : List Int) (w : World) (hn : n ≤ 8192) (hna : na ≤ 32768) (hnb : nb ≤ 32768)
    (he : RdE w eo n es) (ha : Rd w aa na za) (hb : Rd w ab nb zb) (hv : Valid za zb es 0 0) :
    Calls Try.prog 22 #[.slice eo n c, .slice aa na ca, .slice ab nb cb] w (SlPost za zb es w) := by
  obtain ⟨i0, hi0, hz0, hz1, hz2⟩ := info_parts info39
  have HE := hid he
  have HA := hid ha
  have HBb := hid hb
  have HO0 := hid (Out.start hv)
  have LA := hid (show za.length = na from ha.1)
  have LB := hid (show zb.length = nb from hb.1)
  have LE := hid (show es.length = n from he.1)
  clear he ha hb hv
  go_enter Try.func22, Try.ntmps22
  go_wp2
  go_loopw [7, 8] (fun sv iv wr => ∃ (i : Nat) (S : List Ed), i ≤ n ∧ iv = .int .i64 i ∧ Hid (OwE wr w.heap.size sv S.length S) ∧ Hid (Below w.heap.size w wr) ∧ Hid (Out za zb es S i)) (fun _ i _ => n - (intOf i).toNat)
  case atStart => exact ⟨0, [], by omega, rfl, World.ownsRow_nil w _ 39 4, Below.refl _ _, HO0.out⟩
  case round =>
    obtain ⟨i, S, hi, rfl, HO, HB, HT⟩ := hrel
    rename World => wo
    by_cases hlt : i < n
    · obtain ⟨b, off, rfl, hlt2, hc⟩ := HE.out.2.2 (by omega)
      have HC := hid hc
      have HL2 := hid hlt2
      clear hc hlt2
      obtain ⟨c0, c1, c2, c3⟩ := HC.out i hlt
      have q0 := (HB.out.cell (p := ⟨b, off + i * 4, none⟩) HL2.out).trans c0
      have q1 := (HB.out.cell (p := ⟨b, off + i * 4 + 1, none⟩) HL2.out).trans c1
      have q2 := (HB.out.cell (p := ⟨b, off + i * 4 + 2, none⟩) HL2.out).trans c2
      have q3 := (HB.out.cell (p := ⟨b, off + i * 4 + 3, none⟩) HL2.out).trans c3
      clear c0 c1 c2 c3
      have HI0 := hid (HT.out.inn (by rw [LE.out]; exact hlt))
      have HX0 := hid (Bx.start wo (ed es i))
      have HB0 := hid ((Below.refl wo.heap.size wo).alloc (Nat.le_refl _) (.cells #[.int .i64 (ed es i).o, .int .i64 (ed es i).d, .int .i64 (ed es i).n, .int .i64 (ed es i).i] 39))
      obtain ⟨x, ex⟩ : ∃ x, x = ed es i := ⟨_, rfl⟩
      rw [← ex] at q0 q1 q2 q3 HI0 HX0 HB0
      clear ex
      have b1 : (i : Int) < (n : Int) := by omega
      obtain ⟨g, eg⟩ : ∃ g, g = wo.heap.size := ⟨_, rfl⟩
      go_wp2
      go_step3
      go_wp2
      go_step3
      go_wp2
      go_loopg [8] ((n - i) + (na - x.o.toNat)) (fun gk iv w2 => ∃ (j : Nat) (e : Ed), i ≤ j ∧ j < n ∧ iv = .int .i64 j ∧ Hid (gk = (n - j) + (na - e.o.toNat)) ∧ Hid (Bx w2 wo.heap.size e) ∧ Hid (Below wo.heap.size wo w2) ∧ Hid (Inn za zb es S e j))
      case atStart => exact ⟨i, x, by omega, hlt, rfl, rfl, HX0, HB0, HI0⟩
      case round =>
        clear q0 q1 q2 q3 HI0 HX0 HB0 b1
        obtain ⟨j, e, hij, hj, rfl, HG, HX, HB2, HI⟩ := hrel
        rename World => w2
        obtain ⟨o1, o2, o3, o4⟩ := e
        obtain ⟨y1, y2, y3, y4, y5, y6⟩ := HI.out.bounds
        rw [LA.out] at y3
        rw [LB.out] at y6
        simp only at y1 y2 y3 y4 y5 y6
        obtain ⟨p, rfl⟩ : ∃ p : Nat, o1 = p := ⟨o1.toNat, by omega⟩
        obtain ⟨q, rfl⟩ : ∃ q : Nat, o3 = q := ⟨o3.toNat, by omega⟩
        have HBw := hid (HB.out.trans (HB2.out.mono HB.out.size))
        have HO2 := hid (HO.out.later HB2.out (Nat.le_refl _))
        have sl : S.length ≤ j := HI.out.len
        have hs1 : w.heap.size ≤ w2.heap.size := HBw.out.size
        obtain ⟨k0, k1, k2, k3⟩ := HX.out.cells
        simp only at k0 k1 k2 k3
        have f0 := HX.out.frozen 0
        have f1 := HX.out.frozen 1
        have f2 := HX.out.frozen 2
        have f3 := HX.out.frozen 3
        by_cases hP3 : ¬ o2 = 0 ∧ ¬ o4 = 0
        · obtain ⟨z1, z2⟩ := hP3
          have z3 : (o2 == 0) = false := by simpa using z1
          have z4 : (o4 == 0) = false := by simpa using z2
          go_wp2_with (at_builtin; refine wpList_append_own _ rfl _ _ 33 rfl w.heap.size 39 i0 _ 4 32 Try.underlying33 hi0 hz0 hz1 hz2 rfl (by decide) _ _ _ rfl (World.ownsRow.alloc HO2.out _) ⟨w2.heap.size, 0, none⟩ 1 1 [.int .i64 p, .int .i64 o2, .int .i64 q, .int .i64 o4] rfl rfl (four_cells _ _ _ _ _) (ones _ _ _ _) (by unfold maxLen; omega) (by omega) (by simp; omega) ?_; intro v3 w3 hown3 hgrow3 _; have HO3 := hid hown3; have HB3 := hid (Below.grown (Below.alloc (HBw.out) (by exact hs1) _) hgrow3 (by simp; omega) (fun k hk => (World.ownsRow.lt HO.out k hk).1)); clear hown3 hgrow3)
          go_roundw
          case rel => exact ⟨j + 1, S ++ [(⟨p, o2, q, o4⟩ : Ed)], by omega, by go_num, OwE.snoc HO3.out, HB3, hid (HI.out.out (.inl ⟨by simp only; omega, by simp only; omega⟩))⟩
          case measure => simp [intOf]; omega
        by_cases hP1 : o2 = 0
        · subst hP1
          obtain ⟨u, rfl⟩ : ∃ u : Nat, o4 = u := ⟨o4.toNat, by omega⟩
          by_cases hjn : j + 1 < n
          · obtain ⟨y1', y2', y3', y4', y5'⟩ := HI.out.next (by rw [LE.out]; exact hjn)
            rw [LA.out] at y3'
            rw [LB.out] at y5'
            obtain ⟨c0, c1, c2, c3⟩ := HC.out (j + 1) hjn
            have n0 := (HBw.out.cell (p := ⟨b, off + (j + 1) * 4, none⟩) HL2.out).trans c0
            have n1 := (HBw.out.cell (p := ⟨b, off + (j + 1) * 4 + 1, none⟩) HL2.out).trans c1
            have n3 := (HBw.out.cell (p := ⟨b, off + (j + 1) * 4 + 3, none⟩) HL2.out).trans c3
            clear c0 c1 c2 c3
            have HJ := hid (HI.out.join (by rw [LE.out]; exact hjn))
            obtain ⟨y, ey⟩ : ∃ y, y = ed es (j + 1) := ⟨_, rfl⟩
            rw [← ey] at n0 n1 n3 y1' y2' y3' y4' y5' HJ
            have EY := hid ey
            clear ey
            obtain ⟨v1, v2, v3, v4⟩ := y
            simp only at n0 n1 n3 y1' y2' y3' y4' y5' HJ
            have m0 : (j : Int) + 1 < (n : Int) := by omega
            by_cases hT : (p : Int) = v1
            · have HJ1 := HJ.out (by omega)
              simp only [Int.zero_add] at HJ1
              have HJ2 := hid HJ1
              clear HJ1 HJ EY
              subst hT
              have hne : b ≠ wo.heap.size := by have := HL2.out; have := HB.out.size; omega
              have HX2 := hid (HX.out.join (v2) ((u : Int) + v4))
              have HB4 := hid (((HB2.out.setCell (p := ⟨wo.heap.size, 1, none⟩) (Nat.le_refl _) (.int .i64 (v2))).setCell (p := ⟨wo.heap.size, 3, none⟩) (Nat.le_refl _) (.int .i64 ((u : Int) + v4))).drew.drew)
              have r1 := fun v => (World.cell?_setCell_other w2 ⟨wo.heap.size, 1, none⟩ ⟨wo.heap.size, 3, none⟩ v (by simp)).trans k3
              have r2 := fun v => (World.cell?_setCell_other w2 ⟨wo.heap.size, 1, none⟩ ⟨b, off + (j + 1) * 4 + 3, none⟩ v (by intro h; exact hne (by injection h with h; exact h.symm))).trans n3
              go_wp2_with fail
              go_region
              all_goals (
                go_wp2_with fail
                go_region)
              all_goals (
                go_wp2
                go_roundg (n - (j + 1) + (na - p)))
              case rel => exact ⟨j + 1, _, by omega, hjn, by go_num, by show _ = _; simp, HX2, HB4, HJ2⟩
              case measure => have := HG.out; simp at this; omega
            have HNJ : Hid (j + 1 < es.length → (ed es (j + 1)).o ≠ (p : Int) + 0) := fun _ h => by rw [← EY.out] at h; simp only at h; omega
            have hT2 : ((p : Int) == v1) = false := by simpa using hT
            clear HJ EY
            have hB : ¬ (p : Int) = (na : Int) := by omega
            have hB2 : ((p : Int) == (na : Int)) = false := by simpa using hB
            by_cases hu0 : u = 0
            · subst hu0
              go_wp2
              go_quiet (fail)
              go_wp2
              go_quiet (fail)
              go_wp2_with (at_builtin; refine wpList_append_own _ rfl _ _ 33 rfl w.heap.size 39 i0 _ 4 32 Try.underlying33 hi0 hz0 hz1 hz2 rfl (by decide) _ _ _ rfl (World.ownsRow.alloc HO2.out _) ⟨w2.heap.size, 0, none⟩ 1 1 [.int .i64 p, .int .i64 0, .int .i64 q, .int .i64 0] rfl rfl (four_cells _ _ _ _ _) (ones _ _ _ _) (by unfold maxLen; omega) (by omega) (by simp; omega) ?_; intro v3 w3 hown3 hgrow3 _; have HO3 := hid hown3; have HB3 := hid (Below.grown (Below.alloc (by first | exact below_drewN HBw.out _ | exact below_drewN (below_drewN HBw.out _) _) (by exact hs1) _) hgrow3 (by simp; omega) (fun k hk => (World.ownsRow.lt HO.out k hk).1)); clear hown3 hgrow3)
              simp only [Exit.noGoto, Exit.inBlock, Exit.then]
              go_wp2
              go_roundw
              case rel => exact ⟨j + 1, S ++ [(⟨p, 0, q, 0⟩ : Ed)], by omega, by go_num, OwE.snoc HO3.out, HB3, hid (HI.out.out (.inr ⟨HNJ.out, fun _ h => by rcases h with ⟨h, _⟩ | ⟨h, _⟩ <;> (simp only at h; omega)⟩))⟩
              case measure => simp [intOf]; omega
            have hu1 : (0 : Int) < (u : Int) := by omega
            have hu2 : 0 < u := by omega
            have hu3 : decide ((0 : Int) < (u : Int)) = true := decide_eq_true hu1
            have hu4 : decide (0 < u) = true := decide_eq_true hu2
            have hq : q + u < nb := by have h := HI.out.behind (by rw [LA.out]; simp only; omega) HNJ.out; rw [LB.out] at h; simp only at h; omega
            obtain ⟨bb, offb, rfl, ltB, hcb⟩ := HBb.out.2.2 (by omega)
            have g1 := (HBw.out.cell (p := ⟨bb, offb + q, none⟩) ltB).trans (hcb q (by omega))
            have g2 := (HBw.out.cell (p := ⟨bb, offb + (q + u), none⟩) ltB).trans (hcb (q + u) (by omega))
            clear hcb ltB
            have d2 : (q : Int) < (nb : Int) := by omega
            have d4 : q < nb := by omega
            have d3 : (q : Int) + (u : Int) < (nb : Int) := by omega
            obtain ⟨s1, es1⟩ : ∃ y, y = zb.getD q 0 := ⟨_, rfl⟩
            obtain ⟨s2, es2⟩ : ∃ z, z = zb.getD (q + u) 0 := ⟨_, rfl⟩
            rw [← es1] at g1
            rw [← es2] at g2
            have ES1 := hid es1
            have ES2 := hid es2
            clear es1 es2
            by_cases hss : s1 = s2
            · subst hss
              have HX2 := fun r => hid (Bx.move (show Bx (w2.drewN r) wo.heap.size ⟨p, 0, q, u⟩ from HX.out) ((p : Int) + 1) ((q : Int) + 1))
              have HB4 := fun r => hid (((below_drewN HB2.out r).setCell (p := ⟨wo.heap.size, 0, none⟩) (Nat.le_refl _) (.int .i64 ((p : Int) + 1))).setCell (p := ⟨wo.heap.size, 2, none⟩) (Nat.le_refl _) (.int .i64 ((q : Int) + 1)))
              have HM := hid (HI.out.move (by rw [LA.out]; simp only; omega) HNJ.out (.inl rfl) (.inr ⟨hu1, by simp only [nth_nat, nth_one]; rw [← ES1.out, ← ES2.out]⟩))
              go_wp2
              go_quiet (fail)
              go_wp2
              go_quiet (fail)
              go_wp2
              go_roundg (n - j + (na - (p + 1)))
              case rel => exact ⟨j, _, hij, hj, rfl, by show _ = _; simp, HX2 _, HB4 _, HM⟩
              case measure => have := HG.out; simp at this; omega
            have hss2 : (s1 == s2) = false := by simpa using hss
            go_wp2
            go_quiet (fail)
            go_wp2
            go_quiet (fail)
            go_wp2_with (at_builtin; refine wpList_append_own _ rfl _ _ 33 rfl w.heap.size 39 i0 _ 4 32 Try.underlying33 hi0 hz0 hz1 hz2 rfl (by decide) _ _ _ rfl (World.ownsRow.alloc HO2.out _) ⟨w2.heap.size, 0, none⟩ 1 1 [.int .i64 p, .int .i64 0, .int .i64 q, .int .i64 u] rfl rfl (four_cells _ _ _ _ _) (ones _ _ _ _) (by unfold maxLen; omega) (by omega) (by simp; omega) ?_; intro v3 w3 hown3 hgrow3 _; have HO3 := hid hown3; have HB3 := hid (Below.grown (Below.alloc (by first | exact below_drewN HBw.out _ | exact below_drewN (below_drewN HBw.out _) _) (by exact hs1) _) hgrow3 (by simp; omega) (fun k hk => (World.ownsRow.lt HO.out k hk).1)); clear hown3 hgrow3)
            simp only [Exit.noGoto, Exit.inBlock, Exit.then]
            go_wp2
            go_roundw
            case rel => exact ⟨j + 1, S ++ [(⟨p, 0, q, u⟩ : Ed)], by omega, by go_num, OwE.snoc HO3.out, HB3, hid (HI.out.out (.inr ⟨HNJ.out, fun _ h => by rcases h with ⟨h, _⟩ | ⟨_, h⟩; (simp only at h; omega); (simp only [nth_nat, nth_one] at h; rw [← ES1.out, ← ES2.out] at h; exact hss h)⟩))⟩
            case measure => simp [intOf]; omega
          have m0 : ¬ (j : Int) + 1 < (n : Int) := by omega
          have HNJ : Hid (j + 1 < es.length → (ed es (j + 1)).o ≠ (p : Int) + 0) := fun h => by rw [LE.out] at h; omega
          by_cases hB : (p : Int) = (na : Int)
          · obtain rfl : p = na := by omega
            clear hB
            go_wp2_with (at_builtin; refine wpList_append_own _ rfl _ _ 33 rfl w.heap.size 39 i0 _ 4 32 Try.underlying33 hi0 hz0 hz1 hz2 rfl (by decide) _ _ _ rfl (World.ownsRow.alloc HO2.out _) ⟨w2.heap.size, 0, none⟩ 1 1 [.int .i64 p, .int .i64 0, .int .i64 q, .int .i64 u] rfl rfl (four_cells _ _ _ _ _) (ones _ _ _ _) (by unfold maxLen; omega) (by omega) (by simp; omega) ?_; intro v3 w3 hown3 hgrow3 _; have HO3 := hid hown3; have HB3 := hid (Below.grown (Below.alloc (HBw.out) (by exact hs1) _) hgrow3 (by simp; omega) (fun k hk => (World.ownsRow.lt HO.out k hk).1)); clear hown3 hgrow3)
            go_roundw
            case rel => exact ⟨j + 1, S ++ [(⟨p, 0, q, u⟩ : Ed)], by omega, by go_num, OwE.snoc HO3.out, HB3, hid (HI.out.out (.inr ⟨HNJ.out, fun h => by rw [LA.out] at h; simp only at h; omega⟩))⟩
            case measure => simp [intOf]; omega
          have hB2 : ((p : Int) == (na : Int)) = false := by simpa using hB
          by_cases hu0 : u = 0
          · subst hu0
            go_wp2
            go_quiet (fail)
            go_wp2
            go_quiet (fail)
            go_wp2_with (at_builtin; refine wpList_append_own _ rfl _ _ 33 rfl w.heap.size 39 i0 _ 4 32 Try.underlying33 hi0 hz0 hz1 hz2 rfl (by decide) _ _ _ rfl (World.ownsRow.alloc HO2.out _) ⟨w2.heap.size, 0, none⟩ 1 1 [.int .i64 p, .int .i64 0, .int .i64 q, .int .i64 0] rfl rfl (four_cells _ _ _ _ _) (ones _ _ _ _) (by unfold maxLen; omega) (by omega) (by simp; omega) ?_; intro v3 w3 hown3 hgrow3 _; have HO3 := hid hown3; have HB3 := hid (Below.grown (Below.alloc (by first | exact below_drewN HBw.out _ | exact below_drewN (below_drewN HBw.out _) _) (by exact hs1) _) hgrow3 (by simp; omega) (fun k hk => (World.ownsRow.lt HO.out k hk).1)); clear hown3 hgrow3)
            simp only [Exit.noGoto, Exit.inBlock, Exit.then]
            go_wp2
            go_roundw
            case rel => exact ⟨j + 1, S ++ [(⟨p, 0, q, 0⟩ : Ed)], by omega, by go_num, OwE.snoc HO3.out, HB3, hid (HI.out.out (.inr ⟨HNJ.out, fun _ h => by rcases h with ⟨h, _⟩ | ⟨h, _⟩ <;> (simp only at h; omega)⟩))⟩
            case measure => simp [intOf]; omega
          have hu1 : (0 : Int) < (u : Int) := by omega
          have hu2 : 0 < u := by omega
          have hu3 : decide ((0 : Int) < (u : Int)) = true := decide_eq_true hu1
          have hu4 : decide (0 < u) = true := decide_eq_true hu2
          have hq : q + u < nb := by have h := HI.out.behind (by rw [LA.out]; simp only; omega) HNJ.out; rw [LB.out] at h; simp only at h; omega
          obtain ⟨bb, offb, rfl, ltB, hcb⟩ := HBb.out.2.2 (by omega)
          have g1 := (HBw.out.cell (p := ⟨bb, offb + q, none⟩) ltB).trans (hcb q (by omega))
          have g2 := (HBw.out.cell (p := ⟨bb, offb + (q + u), none⟩) ltB).trans (hcb (q + u) (by omega))
          clear hcb ltB
          have d2 : (q : Int) < (nb : Int) := by omega
          have d4 : q < nb := by omega
          have d3 : (q : Int) + (u : Int) < (nb : Int) := by omega
          obtain ⟨s1, es1⟩ : ∃ y, y = zb.getD q 0 := ⟨_, rfl⟩
          obtain ⟨s2, es2⟩ : ∃ z, z = zb.getD (q + u) 0 := ⟨_, rfl⟩
          rw [← es1] at g1
          rw [← es2] at g2
          have ES1 := hid es1
          have ES2 := hid es2
          clear es1 es2
          by_cases hss : s1 = s2
          · subst hss
            have HX2 := fun r => hid (Bx.move (show Bx (w2.drewN r) wo.heap.size ⟨p, 0, q, u⟩ from HX.out) ((p : Int) + 1) ((q : Int) + 1))
            have HB4 := fun r => hid (((below_drewN HB2.out r).setCell (p := ⟨wo.heap.size, 0, none⟩) (Nat.le_refl _) (.int .i64 ((p : Int) + 1))).setCell (p := ⟨wo.heap.size, 2, none⟩) (Nat.le_refl _) (.int .i64 ((q : Int) + 1)))
            have HM := hid (HI.out.move (by rw [LA.out]; simp only; omega) HNJ.out (.inl rfl) (.inr ⟨hu1, by simp only [nth_nat, nth_one]; rw [← ES1.out, ← ES2.out]⟩))
            go_wp2
            go_quiet (fail)
            go_wp2
            go_quiet (fail)
            go_wp2
            go_roundg (n - j + (na - (p + 1)))
            case rel => exact ⟨j, _, hij, hj, rfl, by show _ = _; simp, HX2 _, HB4 _, HM⟩
            case measure => have := HG.out; simp at this; omega
          have hss2 : (s1 == s2) = false := by simpa using hss
          go_wp2
          go_quiet (fail)
          go_wp2
          go_quiet (fail)
          go_wp2_with (at_builtin; refine wpList_append_own _ rfl _ _ 33 rfl w.heap.size 39 i0 _ 4 32 Try.underlying33 hi0 hz0 hz1 hz2 rfl (by decide) _ _ _ rfl (World.ownsRow.alloc HO2.out _) ⟨w2.heap.size, 0, none⟩ 1 1 [.int .i64 p, .int .i64 0, .int .i64 q, .int .i64 u] rfl rfl (four_cells _ _ _ _ _) (ones _ _ _ _) (by unfold maxLen; omega) (by omega) (by simp; omega) ?_; intro v3 w3 hown3 hgrow3 _; have HO3 := hid hown3; have HB3 := hid (Below.grown (Below.alloc (by first | exact below_drewN HBw.out _ | exact below_drewN (below_drewN HBw.out _) _) (by exact hs1) _) hgrow3 (by simp; omega) (fun k hk => (World.ownsRow.lt HO.out k hk).1)); clear hown3 hgrow3)
          simp only [Exit.noGoto, Exit.inBlock, Exit.then]
          go_wp2
          go_roundw
          case rel => exact ⟨j + 1, S ++ [(⟨p, 0, q, u⟩ : Ed)], by omega, by go_num, OwE.snoc HO3.out, HB3, hid (HI.out.out (.inr ⟨HNJ.out, fun _ h => by rcases h with ⟨h, _⟩ | ⟨_, h⟩; (simp only at h; omega); (simp only [nth_nat, nth_one] at h; rw [← ES1.out, ← ES2.out] at h; exact hss h)⟩))⟩
          case measure => simp [intOf]; omega
        obtain rfl : o4 = 0 := by omega
        obtain ⟨d, rfl⟩ : ∃ d : Nat, o2 = d := ⟨o2.toNat, by omega⟩
        have hd0 : ¬ d = 0 := by omega
        have hd1 : (0 : Int) < (d : Int) := by omega
        have hd2 : 0 < d := by omega
        have hd3 : decide ((0 : Int) < (d : Int)) = true := decide_eq_true hd1
        have hd4 : decide (0 < d) = true := decide_eq_true hd2
        have hd5 : ((d : Int) == 0) = false := by simpa using hd0
        clear hP1 hP3
        by_cases hjn : j + 1 < n
        · obtain ⟨y1', y2', y3', y4', y5'⟩ := HI.out.next (by rw [LE.out]; exact hjn)
          rw [LA.out] at y3'
          rw [LB.out] at y5'
          obtain ⟨c0, c1, c2, c3⟩ := HC.out (j + 1) hjn
          have n0 := (HBw.out.cell (p := ⟨b, off + (j + 1) * 4, none⟩) HL2.out).trans c0
          have n1 := (HBw.out.cell (p := ⟨b, off + (j + 1) * 4 + 1, none⟩) HL2.out).trans c1
          have n3 := (HBw.out.cell (p := ⟨b, off + (j + 1) * 4 + 3, none⟩) HL2.out).trans c3
          clear c0 c1 c2 c3
          have HJ := hid (HI.out.join (by rw [LE.out]; exact hjn))
          obtain ⟨y, ey⟩ : ∃ y, y = ed es (j + 1) := ⟨_, rfl⟩
          rw [← ey] at n0 n1 n3 y1' y2' y3' y4' y5' HJ
          have EY := hid ey
          clear ey
          obtain ⟨v1, v2, v3, v4⟩ := y
          simp only at n0 n1 n3 y1' y2' y3' y4' y5' HJ
          have m0 : (j : Int) + 1 < (n : Int) := by omega
          by_cases hT : (p : Int) + (d : Int) = v1
          · have HJ1 := HJ.out (by omega)
            simp only [Int.zero_add] at HJ1
            have HJ2 := hid HJ1
            clear HJ1 HJ EY
            subst hT
            have hne : b ≠ wo.heap.size := by have := HL2.out; have := HB.out.size; omega
            have HX2 := hid (HX.out.join ((d : Int) + v2) (v4))
            have HB4 := hid (((HB2.out.setCell (p := ⟨wo.heap.size, 1, none⟩) (Nat.le_refl _) (.int .i64 ((d : Int) + v2))).setCell (p := ⟨wo.heap.size, 3, none⟩) (Nat.le_refl _) (.int .i64 (v4))).drew.drew)
            have r1 := fun v => (World.cell?_setCell_other w2 ⟨wo.heap.size, 1, none⟩ ⟨wo.heap.size, 3, none⟩ v (by simp)).trans k3
            have r2 := fun v => (World.cell?_setCell_other w2 ⟨wo.heap.size, 1, none⟩ ⟨b, off + (j + 1) * 4 + 3, none⟩ v (by intro h; exact hne (by injection h with h; exact h.symm))).trans n3
            go_wp2_with fail
            go_region
            all_goals (
              go_wp2_with fail
              go_region)
            all_goals (
              go_wp2
              go_roundg (n - (j + 1) + (na - p)))
            case rel => exact ⟨j + 1, _, by omega, hjn, by go_num, by show _ = _; simp, HX2, HB4, HJ2⟩
            case measure => have := HG.out; simp at this; omega
          have HNJ : Hid (j + 1 < es.length → (ed es (j + 1)).o ≠ (p : Int) + d) := fun _ h => by rw [← EY.out] at h; simp only at h; omega
          have hT2 : ((p : Int) + (d : Int) == v1) = false := by simpa using hT
          clear HJ EY
          have hB : ¬ (p : Int) + (d : Int) = (na : Int) := by omega
          have hB2 : ((p : Int) + (d : Int) == (na : Int)) = false := by simpa using hB
          have hpd : p + d < na := by omega
          obtain ⟨ba, offa, rfl, ltA, hca⟩ := HA.out.2.2 (by omega)
          have g1 := (HBw.out.cell (p := ⟨ba, offa + p, none⟩) ltA).trans (hca p (by omega))
          have g2 := (HBw.out.cell (p := ⟨ba, offa + (p + d), none⟩) ltA).trans (hca (p + d) (by omega))
          clear hca ltA
          have d2 : (p : Int) < (na : Int) := by omega
          have d4 : p < na := by omega
          have d3 : (p : Int) + (d : Int) < (na : Int) := by omega
          obtain ⟨s1, es1⟩ : ∃ y, y = za.getD p 0 := ⟨_, rfl⟩
          obtain ⟨s2, es2⟩ : ∃ z, z = za.getD (p + d) 0 := ⟨_, rfl⟩
          rw [← es1] at g1
          rw [← es2] at g2
          have ES1 := hid es1
          have ES2 := hid es2
          clear es1 es2
          by_cases hss : s1 = s2
          · subst hss
            have HX2 := fun r => hid (Bx.move (show Bx (w2.drewN r) wo.heap.size ⟨p, d, q, 0⟩ from HX.out) ((p : Int) + 1) ((q : Int) + 1))
            have HB4 := fun r => hid (((below_drewN HB2.out r).setCell (p := ⟨wo.heap.size, 0, none⟩) (Nat.le_refl _) (.int .i64 ((p : Int) + 1))).setCell (p := ⟨wo.heap.size, 2, none⟩) (Nat.le_refl _) (.int .i64 ((q : Int) + 1)))
            have HM := hid (HI.out.move (by rw [LA.out]; simp only; omega) HNJ.out (.inr rfl) (.inl ⟨hd1, by simp only [nth_nat, nth_one]; rw [← ES1.out, ← ES2.out]⟩))
            go_wp2
            go_quiet (fail)
            go_wp2
            go_roundg (n - j + (na - (p + 1)))
            case rel => exact ⟨j, _, hij, hj, rfl, by show _ = _; simp, HX2 _, HB4 _, HM⟩
            case measure => have := HG.out; simp at this; omega
          have hss2 : (s1 == s2) = false := by simpa using hss
          go_wp2
          go_quiet (fail)
          go_wp2
          go_quiet (fail)
          go_wp2_with (at_builtin; refine wpList_append_own _ rfl _ _ 33 rfl w.heap.size 39 i0 _ 4 32 Try.underlying33 hi0 hz0 hz1 hz2 rfl (by decide) _ _ _ rfl (World.ownsRow.alloc HO2.out _) ⟨w2.heap.size, 0, none⟩ 1 1 [.int .i64 p, .int .i64 d, .int .i64 q, .int .i64 0] rfl rfl (four_cells _ _ _ _ _) (ones _ _ _ _) (by unfold maxLen; omega) (by omega) (by simp; omega) ?_; intro v3 w3 hown3 hgrow3 _; have HO3 := hid hown3; have HB3 := hid (Below.grown (Below.alloc (by first | exact below_drewN HBw.out _ | exact below_drewN (below_drewN HBw.out _) _) (by exact hs1) _) hgrow3 (by simp; omega) (fun k hk => (World.ownsRow.lt HO.out k hk).1)); clear hown3 hgrow3)
          simp only [Exit.noGoto, Exit.inBlock, Exit.then]
          go_wp2
          go_roundw
          case rel => exact ⟨j + 1, S ++ [(⟨p, d, q, 0⟩ : Ed)], by omega, by go_num, OwE.snoc HO3.out, HB3, hid (HI.out.out (.inr ⟨HNJ.out, fun _ h => by rcases h with ⟨_, h⟩ | ⟨h, _⟩; (simp only [nth_nat, nth_one] at h; rw [← ES1.out, ← ES2.out] at h; exact hss h); (simp only at h; omega)⟩))⟩
          case measure => simp [intOf]; omega
        have m0 : ¬ (j : Int) + 1 < (n : Int) := by omega
        have HNJ : Hid (j + 1 < es.length → (ed es (j + 1)).o ≠ (p : Int) + d) := fun h => by rw [LE.out] at h; omega
        by_cases hB : (p : Int) + (d : Int) = (na : Int)
        · obtain rfl : na = p + d := by omega
          clear hB
          go_wp2_with (at_builtin; refine wpList_append_own _ rfl _ _ 33 rfl w.heap.size 39 i0 _ 4 32 Try.underlying33 hi0 hz0 hz1 hz2 rfl (by decide) _ _ _ rfl (World.ownsRow.alloc HO2.out _) ⟨w2.heap.size, 0, none⟩ 1 1 [.int .i64 p, .int .i64 d, .int .i64 q, .int .i64 0] rfl rfl (four_cells _ _ _ _ _) (ones _ _ _ _) (by unfold maxLen; omega) (by omega) (by simp; omega) ?_; intro v3 w3 hown3 hgrow3 _; have HO3 := hid hown3; have HB3 := hid (Below.grown (Below.alloc (HBw.out) (by exact hs1) _) hgrow3 (by simp; omega) (fun k hk => (World.ownsRow.lt HO.out k hk).1)); clear hown3 hgrow3)
          go_roundw
          case rel => exact ⟨j + 1, S ++ [(⟨p, d, q, 0⟩ : Ed)], by omega, by go_num, OwE.snoc HO3.out, HB3, hid (HI.out.out (.inr ⟨HNJ.out, fun h => by rw [LA.out] at h; simp only at h; omega⟩))⟩
          case measure => simp [intOf]; omega
        have hB2 : ((p : Int) + (d : Int) == (na : Int)) = false := by simpa using hB
        have hpd : p + d < na := by omega
        obtain ⟨ba, offa, rfl, ltA, hca⟩ := HA.out.2.2 (by omega)
        have g1 := (HBw.out.cell (p := ⟨ba, offa + p, none⟩) ltA).trans (hca p (by omega))
        have g2 := (HBw.out.cell (p := ⟨ba, offa + (p + d), none⟩) ltA).trans (hca (p + d) (by omega))
        clear hca ltA
        have d2 : (p : Int) < (na : Int) := by omega
        have d4 : p < na := by omega
        have d3 : (p : Int) + (d : Int) < (na : Int) := by omega
        obtain ⟨s1, es1⟩ : ∃ y, y = za.getD p 0 := ⟨_, rfl⟩
        obtain ⟨s2, es2⟩ : ∃ z, z = za.getD (p + d) 0 := ⟨_, rfl⟩
        rw [← es1] at g1
        rw [← es2] at g2
        have ES1 := hid es1
        have ES2 := hid es2
        clear es1 es2
        by_cases hss : s1 = s2
        · subst hss
          have HX2 := fun r => hid (Bx.move (show Bx (w2.drewN r) wo.heap.size ⟨p, d, q, 0⟩ from HX.out) ((p : Int) + 1) ((q : Int) + 1))
          have HB4 := fun r => hid (((below_drewN HB2.out r).setCell (p := ⟨wo.heap.size, 0, none⟩) (Nat.le_refl _) (.int .i64 ((p : Int) + 1))).setCell (p := ⟨wo.heap.size, 2, none⟩) (Nat.le_refl _) (.int .i64 ((q : Int) + 1)))
          have HM := hid (HI.out.move (by rw [LA.out]; simp only; omega) HNJ.out (.inr rfl) (.inl ⟨hd1, by simp only [nth_nat, nth_one]; rw [← ES1.out, ← ES2.out]⟩))
          go_wp2
          go_quiet (fail)
          go_wp2
          go_roundg (n - j + (na - (p + 1)))
          case rel => exact ⟨j, _, hij, hj, rfl, by show _ = _; simp, HX2 _, HB4 _, HM⟩
          case measure => have := HG.out; simp at this; omega
        have hss2 : (s1 == s2) = false := by simpa using hss
        go_wp2
        go_quiet (fail)
        go_wp2
        go_quiet (fail)
        go_wp2_with (at_builtin; refine wpList_append_own _ rfl _ _ 33 rfl w.heap.size 39 i0 _ 4 32 Try.underlying33 hi0 hz0 hz1 hz2 rfl (by decide) _ _ _ rfl (World.ownsRow.alloc HO2.out _) ⟨w2.heap.size, 0, none⟩ 1 1 [.int .i64 p, .int .i64 d, .int .i64 q, .int .i64 0] rfl rfl (four_cells _ _ _ _ _) (ones _ _ _ _) (by unfold maxLen; omega) (by omega) (by simp; omega) ?_; intro v3 w3 hown3 hgrow3 _; have HO3 := hid hown3; have HB3 := hid (Below.grown (Below.alloc (by first | exact below_drewN HBw.out _ | exact below_drewN (below_drewN HBw.out _) _) (by exact hs1) _) hgrow3 (by simp; omega) (fun k hk => (World.ownsRow.lt HO.out k hk).1)); clear hown3 hgrow3)
        simp only [Exit.noGoto, Exit.inBlock, Exit.then]
        go_wp2
        go_roundw
        case rel => exact ⟨j + 1, S ++ [(⟨p, d, q, 0⟩ : Ed)], by omega, by go_num, OwE.snoc HO3.out, HB3, hid (HI.out.out (.inr ⟨HNJ.out, fun _ h => by rcases h with ⟨_, h⟩ | ⟨h, _⟩; (simp only [nth_nat, nth_one] at h; rw [← ES1.out, ← ES2.out] at h; exact hss h); (simp only at h; omega)⟩))⟩
        case measure => simp [intOf]; omega
    · obtain rfl : i = n := by omega
      have HGd := hid (HT.out.good LE.out.symm)
      go_wp2
      go_ret
      exact ⟨_, S, rfl, HO.out, HGd.out, HB.out⟩

end Go.Proofs.Qxb6602961a.Wk
