import Derived.Test.Qxb6602662aDoorRate3
import Derived.LoopTactic
namespace Go.Proofs.Qxb6602662aDoor.Wk
open Go.ChangeShapes Go.WideShapes Go.ChangeAt Go.RowKit
set_option linter.unusedVariables false

/-- The digit of u at place j, as a cell. -/
def dgI (u j : Nat) : Value := .int .u8 ((48 + u / 10 ^ j % 10 : Nat) : Int)

/-- The array of digits, k of them laid. -/
def revArr (u k : Nat) : Array Value := ((List.range 24).map fun j => if j < k then dgI u j else .int .u8 0).toArray

theorem revArr_zero (u : Nat) : revArr u 0 = Lib.zeros24 := rfl

theorem revArr_at (u k j : Nat) (hj : j < 24) : (revArr u k)[j]? = some (if j < k then dgI u j else .int .u8 0) := by
  simp [revArr, hj]

theorem revArr_step (u k : Nat) (hk : k < 24) (v : Value) (hv : v = dgI u k) : (revArr u k).setIfInBounds k v = revArr u (k + 1) := by
  subst hv
  apply Array.ext
  · simp [revArr]
  · intro j h1 h2
    have hj : j < 24 := by simpa [revArr] using h2
    rw [Array.getElem_setIfInBounds]
    by_cases e : k = j
    · subst e
      simp [revArr]
    · rw [if_neg e]
      simp only [revArr, List.getElem_toArray, List.getElem_map, List.getElem_range]
      by_cases h : j < k
      · rw [if_pos h, if_pos (by omega)]
      · rw [if_neg h, if_neg (by omega)]
    · simpa [revArr] using hj

/-- The digits from place K - 1 downwards, m of them. -/
def downs (u K m : Nat) : List Value := (List.range m).map fun t => dgI u (K - 1 - t)

theorem downs_succ (u K m : Nat) : downs u K (m + 1) = downs u K m ++ [dgI u (K - 1 - m)] := by
  simp [downs, List.range_succ]

theorem downs_length (u K m : Nat) : (downs u K m).length = m := by simp [downs]

theorem dg_cell (u j : Nat) : Value.int .u8 ((Lib.dg u j).toNat : Int) = dgI u j := by
  unfold Lib.dg dgI
  exact u8cell _ (by omega)

/-- The digits above the hundredths are the whole part's numeral. -/
theorem downs_whole (u K : Nat) (h3 : 3 ≤ K) (hlt : u < 10 ^ K) (hge : K ≤ 3 ∨ 10 ^ (K - 1) ≤ u) : downs u K (K - 2) = Lib.byteCells (Lib.decDigits (u / 100)) := by
  have hn : Lib.nDigits (u / 100) = K - 2 := by
    obtain ⟨m, rfl⟩ : ∃ m, K = m + 3 := ⟨K - 3, by omega⟩
    by_cases h10 : u / 100 < 10
    · rw [Lib.nDigits_small h10]
      rcases hge with h | h
      · omega
      · have hm : m = 0 := by
          rcases Nat.eq_zero_or_pos m with h0 | h0
          · exact h0
          · have : 10 ^ (1 + 2) ≤ 10 ^ (m + 3 - 1) := Nat.pow_le_pow_right (by decide) (by omega)
            omega
        omega
    · have := Lib.nDigits_unique m (u / 100) ?_ ?_
      · rw [this]; omega
      · rcases hge with h | h
        · obtain rfl : m = 0 := by omega
          omega
        · have e : m + 3 - 1 = m + 2 := by omega
          rw [e, Nat.pow_add] at h
          exact (Nat.le_div_iff_mul_le (by decide)).2 h
      · have e : m + 3 = m + 1 + 2 := by omega
        rw [e, Nat.pow_add] at hlt
        exact Nat.div_lt_of_lt_mul (by rw [Nat.mul_comm]; exact hlt)
  rw [Lib.decDigits_eq, hn]
  simp only [downs, Lib.byteCells, List.map_map]
  apply List.map_congr_left
  intro t ht
  have ht' : t < K - 2 := List.mem_range.1 ht
  show dgI u (K - 1 - t) = Value.int .u8 ((Lib.dg (u / 100) (K - 2 - 1 - t)).toNat : Int)
  rw [dg_cell]
  unfold dgI
  have e : K - 1 - t = 2 + (K - 2 - 1 - t) := by omega
  rw [e, Nat.pow_add, ← Nat.div_div_eq_div_mul]

theorem frac_cells (u : Nat) : fracCells (u % 100) = if u % 10 ≠ 0 then [.int .u8 46, dgI u 1, dgI u 0] else if u / 10 % 10 ≠ 0 then [.int .u8 46, dgI u 1] else [] := by
  unfold fracCells dgI
  have e1 : u % 100 / 10 = u / 10 % 10 := by omega
  have e2 : u % 100 % 10 = u % 10 := by omega
  rw [e1, e2]
  simp only [Nat.pow_one, Nat.pow_zero, Nat.div_one]
  by_cases h0 : u % 100 = 0
  · rw [if_pos h0, if_neg (by omega), if_neg (by omega)]
  · rw [if_neg h0]
    by_cases h1 : u % 10 = 0
    · rw [if_pos h1, if_neg (by omega), if_pos (by omega)]
    · rw [if_neg h1, if_pos h1]

end Go.Proofs.Qxb6602662aDoor.Wk
