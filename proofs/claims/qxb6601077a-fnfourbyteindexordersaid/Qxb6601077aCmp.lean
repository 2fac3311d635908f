import Derived.Test.Qxb6601077aZz
import Derived.LoopTactic
namespace Go.Proofs.Qxb6601077a.Wk
open Go.ChangeShapes Go.WideShapes Go.ChangeAt Go.RowKit
set_option linter.unusedVariables false

/-- The order of two rows of bytes, told from place k on, n places. -/
def cmpFrom (zs ys : List Int) : Nat → Nat → Int
  | _, 0 => 0
  | k, n + 1 => if zs.getD k 0 < ys.getD k 0 then -1 else if ys.getD k 0 < zs.getD k 0 then 1 else cmpFrom zs ys (k + 1) n

theorem cmp_step_lt {zs ys : List Int} {k : Nat} (hk : k < 4) (h : zs.getD k 0 < ys.getD k 0) : cmpFrom zs ys k (4 - k) = -1 := by
  obtain ⟨m, hm⟩ : ∃ m, 4 - k = m + 1 := ⟨4 - k - 1, by omega⟩
  rw [hm, cmpFrom, if_pos h]
theorem cmp_step_gt {zs ys : List Int} {k : Nat} (hk : k < 4) (h : ys.getD k 0 < zs.getD k 0) : cmpFrom zs ys k (4 - k) = 1 := by
  obtain ⟨m, hm⟩ : ∃ m, 4 - k = m + 1 := ⟨4 - k - 1, by omega⟩
  rw [hm, cmpFrom, if_neg (by omega), if_pos h]
theorem cmp_step_eq {zs ys : List Int} {k : Nat} (hk : k < 4) (h : ¬ zs.getD k 0 < ys.getD k 0) (h' : ¬ ys.getD k 0 < zs.getD k 0) : cmpFrom zs ys (k + 1) (4 - (k + 1)) = cmpFrom zs ys k (4 - k) := by
  obtain ⟨m, hm⟩ : ∃ m, 4 - k = m + 1 := ⟨4 - k - 1, by omega⟩
  rw [hm, cmpFrom, if_neg h, if_neg h', show 4 - (k + 1) = m by omega]

theorem dn2 (w : World) (m k : Nat) : (w.drewN m).drewN k = w.drewN (m + k) := by simp [World.drewN, Nat.add_assoc]

theorem ret_int {k : IntKind} {a b : Int} (h : a = b) : Ending.returned (.int k a) = .returned (.int k b) := by rw [h]

set_option maxHeartbeats 400000 in
theorem cmp_any (g1 g2 n1 n2 p1 p2 : Nat) (zs ys : List Int) (w : World) (h1 : 4 ≤ n1) (h2 : 4 ≤ n2)
    (ha : ∀ j, j < 4 → w.cell? ⟨g1, j, none⟩ = some (.int .u8 (zs.getD j 0)))
    (hb : ∀ j, j < 4 → w.cell? ⟨g2, j, none⟩ = some (.int .u8 (ys.getD j 0))) :
    Calls Try.prog 19 #[.slice (some ⟨g1, 0, none⟩) n1 p1, .slice (some ⟨g2, 0, none⟩) n2 p2] w fun e w' => e = .returned (.int .i64 (cmpFrom zs ys 0 4)) ∧ ∃ k, w' = w.drewN k := by
  obtain ⟨r, hr⟩ : ∃ r, r = cmpFrom zs ys 0 4 := ⟨_, rfl⟩
  have HR := hid hr
  rw [← hr]
  clear hr
  go_enter Try.func19, Try.ntmps19
  go_wp2
  go_loopw [5] (fun i wr => ∃ k m : Nat, k ≤ 4 ∧ i = .int .i64 k ∧ wr = w.drewN m ∧ Hid (cmpFrom zs ys k (4 - k) = r)) (fun i _ => 4 - (intOf i).toNat)
  case atStart => exact ⟨0, 0, by omega, rfl, rfl, HR.out.symm⟩
  case round =>
    obtain ⟨k, m, hk, rfl, rfl, HK⟩ := hrel
    by_cases hlt : k < 4
    · have ca := ha k hlt
      have cb := hb k hlt
      obtain ⟨x, hx⟩ : ∃ x, x = zs.getD k 0 := ⟨_, rfl⟩
      obtain ⟨y, hy⟩ : ∃ y, y = ys.getD k 0 := ⟨_, rfl⟩
      rw [← hx] at ca
      rw [← hy] at cb
      have HX := hid hx
      have HY := hid hy
      clear hx hy ha hb
      have b1 : (k : Int) < (n1 : Int) := by omega
      have b2 : (k : Int) < (n2 : Int) := by omega
      by_cases c1 : x < y
      · go_wp2
        go_quiet (fail)
        go_wp2
        go_ret
        exact ⟨ret_int (by rw [← HK.out, cmp_step_lt hlt (by rw [← HX.out, ← HY.out]; exact c1)]), _, dn2 _ _ _⟩
      · by_cases c2 : y < x
        · go_wp2
          go_quiet (fail)
          go_wp2
          go_quiet (fail)
          go_wp2
          go_ret
          exact ⟨ret_int (by rw [← HK.out, cmp_step_gt hlt (by rw [← HX.out, ← HY.out]; exact c2)]), _, by rw [dn2, dn2]⟩
        · go_wp2
          go_quiet (fail)
          go_wp2
          go_quiet (fail)
          go_wp2
          go_roundw
          case rel => exact ⟨k + 1, _, by omega, by go_num, rfl, (cmp_step_eq hlt (by rw [← HX.out, ← HY.out]; omega) (by rw [← HX.out, ← HY.out]; omega)).trans HK.out⟩
          case measure => simp [intOf]; omega
    · go_wp2
      go_ret
      obtain rfl : k = 4 := by omega
      exact ⟨ret_int HK.out, _, rfl⟩

end Go.Proofs.Qxb6601077a.Wk
