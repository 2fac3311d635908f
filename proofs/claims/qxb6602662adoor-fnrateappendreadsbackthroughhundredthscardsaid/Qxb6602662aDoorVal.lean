import Derived.Test.Qxb6602662aDoorRate3
import Derived.LoopTactic
import Derived.Lib.Strings
namespace Go.Proofs.Qxb6602662aDoor.Wk
open Go.ChangeShapes Go.WideShapes Go.ChangeAt Go.RowKit
set_option linter.unusedVariables false

/-! ### The value of a row of digits -/
def dval (l : List UInt8) : Nat := l.foldl (fun n c => n * 10 + (c.toNat - 48)) 0

theorem dval_snoc (l : List UInt8) (c : UInt8) : dval (l ++ [c]) = dval l * 10 + (c.toNat - 48) := by simp [dval]

theorem dval_le_append (a : List UInt8) : ∀ b : List UInt8, dval a ≤ dval (a ++ b) := by
  intro b
  induction b generalizing a with
  | nil => simp
  | cons c b ih =>
    have h := ih (a ++ [c])
    rw [dval_snoc] at h
    have e : a ++ [c] ++ b = a ++ c :: b := by simp
    rw [e] at h
    omega

theorem dval_take_le (l : List UInt8) (k : Nat) : dval (l.take k) ≤ dval l := by
  have := dval_le_append (l.take k) (l.drop k)
  rwa [List.take_append_drop] at this

theorem dec_dig (u : Nat) : ∀ c ∈ Lib.decDigits u, 48 ≤ c.toNat ∧ c.toNat ≤ 57 := by
  intro c hc
  rw [Lib.decDigits_eq] at hc
  obtain ⟨t, _, rfl⟩ := List.mem_map.1 hc
  unfold Lib.dg
  have h : 48 + u / 10 ^ (Lib.nDigits u - 1 - t) % 10 < 256 := by omega
  have e : (UInt8.ofNat (48 + u / 10 ^ (Lib.nDigits u - 1 - t) % 10)).toNat = 48 + u / 10 ^ (Lib.nDigits u - 1 - t) % 10 := by
    rw [UInt8.toNat_ofNat']; exact Nat.mod_eq_of_lt h
  rw [e]
  omega

theorem dval_dec (u : Nat) : dval (Lib.decDigits u) = u := by
  induction u using Nat.strongRecOn with
  | ind u ih =>
    by_cases h : u < 10
    · rw [Lib.decDigits_one h]
      have e : (UInt8.ofNat (48 + u)).toNat = 48 + u := by rw [UInt8.toNat_ofNat']; exact Nat.mod_eq_of_lt (by omega)
      simp [dval]
      omega
    · have h1 : Lib.decDigits u = Lib.decDigits (u / 10) ++ [UInt8.ofNat (48 + u % 10)] := by rw [Lib.decDigits, dif_neg h]
      have e : (UInt8.ofNat (48 + u % 10)).toNat = 48 + u % 10 := by rw [UInt8.toNat_ofNat']; exact Nat.mod_eq_of_lt (by omega)
      rw [h1, dval_snoc, ih (u / 10) (by omega), e]
      omega

theorem pow_nDigits (u : Nat) (h : ¬ u < 10) : 10 ^ (Lib.nDigits u - 1) ≤ u := by
  induction u using Nat.strongRecOn with
  | ind u ih =>
    rw [Lib.nDigits_big h]
    by_cases h100 : u / 10 < 10
    · rw [Lib.nDigits_small h100]; omega
    · have h2 := Lib.nDigits_pos (u / 10)
      have := ih (u / 10) (by omega) h100
      rw [Nat.add_sub_cancel]
      have h3 : Lib.nDigits (u / 10) = Lib.nDigits (u / 10) - 1 + 1 := by omega
      rw [h3, Nat.pow_succ]
      omega

/-- No leading nought. -/
theorem dec_head (u : Nat) : 1 < (Lib.decDigits u).length → (Lib.decDigits u).headD 0 ≠ 48 := by
  intro h
  have hn := Lib.decDigits_length u
  rw [hn] at h
  have hp : 10 ^ (Lib.nDigits u - 1) ≤ u := by
    by_cases h10 : u < 10
    · rw [Lib.nDigits_small h10] at h; omega
    · exact pow_nDigits u h10
  rw [Lib.decDigits_eq]
  obtain ⟨m, hm⟩ : ∃ m, Lib.nDigits u = m + 1 := ⟨Lib.nDigits u - 1, by omega⟩
  rw [hm] at hp ⊢
  rw [List.range_succ_eq_map]
  simp only [List.map_cons, List.headD_cons, Nat.add_sub_cancel, Nat.sub_zero] at hp ⊢
  unfold Lib.dg
  have hlt := Lib.lt_pow_nDigits u
  rw [hm, Nat.pow_succ] at hlt
  have hd : u / 10 ^ m < 10 := Nat.div_lt_of_lt_mul (by omega)
  have hd0 : 0 < u / 10 ^ m := Nat.div_pos hp (Nat.pow_pos (by decide))
  intro hc
  have e : (UInt8.ofNat (48 + u / 10 ^ m % 10)).toNat = 48 + u / 10 ^ m % 10 := by rw [UInt8.toNat_ofNat']; exact Nat.mod_eq_of_lt (by omega)
  rw [hc] at e
  simp at e
  omega

/-- The hundredths' digits, a last nought left off. -/
def fracB (f : Nat) : List UInt8 := if f = 0 then [] else if f % 10 = 0 then [UInt8.ofNat (48 + f / 10)] else [UInt8.ofNat (48 + f / 10), UInt8.ofNat (48 + f % 10)]

/-- The text of a rate that is not negative, as bytes. -/
def rateB (u : Nat) : List UInt8 := Lib.decDigits (u / 100) ++ (if u % 100 = 0 then [] else 46 :: fracB (u % 100))

theorem rate_bytes (u : Nat) : rateCells u = Lib.byteCells (rateB u) := by
  unfold rateCells rateB
  rw [Lib.byteCells_append]
  congr 1
  unfold fracCells fracB
  by_cases h0 : u % 100 = 0
  · simp [h0, Lib.byteCells]
  · rw [if_neg h0, if_neg h0, if_neg h0]
    by_cases h1 : u % 100 % 10 = 0
    · rw [if_pos h1, if_pos h1]
      simp only [Lib.byteCells, List.map_cons, List.map_nil]
      rw [u8cell _ (by omega)]
      rfl
    · rw [if_neg h1, if_neg h1]
      simp only [Lib.byteCells, List.map_cons, List.map_nil]
      rw [u8cell _ (by omega), u8cell _ (by omega)]
      rfl

end Go.Proofs.Qxb6602662aDoor.Wk
