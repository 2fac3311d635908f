import Derived.Test.Qxb6602704aBox
import Derived.Test.Qxb6602704aGood
namespace Go.Proofs.Qxb6602704a.Wk
open Go.ChangeShapes Go.WideShapes Go.ChangeAt Go.RowKit
set_option linter.unusedVariables false
set_option maxRecDepth 100000

/-- A step that counts only where there is more than one. -/
def stepN (n : Nat) (line : Int) : Nat := if 1 < n then line.toNat else 0

theorem steps_of (n : Nat) (line : Int) (h : 1 < n → 0 ≤ line) : Steps n line (stepN n line) := fun i _ => by
  unfold stepN
  by_cases h1 : 1 < n
  · rw [if_pos (by omega), if_pos h1]
    have := h h1
    rw [Int.natCast_mul, Int.toNat_of_nonneg this]
  · rw [if_neg (by omega), if_neg h1]
    simp

theorem ends (size n len : Nat) (line step : Int) (hl : 1 ≤ len) (hn : 1 ≤ n) (h : fitsB size line step n len = true) :
    (1 < n → 0 ≤ line) ∧ (1 < len → 0 ≤ step) ∧ ∀ i j, i < n → j < len → i * stepN n line + j * stepN len step + 4 ≤ size := by
  unfold fitsB at h
  have h' := of_decide_eq_true h
  obtain ⟨_, h1, h2, h3⟩ := h'
  refine ⟨fun a => (h1 (by omega)).1, fun a => (h2 (by omega)).1, fun i j hi hj => ?_⟩
  have e1 : ((i * stepN n line : Nat) : Int) ≤ (if (1 : Int) < (n : Int) then ((n : Int) - 1) * line else 0) := by
    unfold stepN
    by_cases a : 1 < n
    · rw [if_pos a, if_pos (by omega)]
      have hz := (h1 (by omega)).1
      rw [Int.natCast_mul, Int.toNat_of_nonneg hz]
      exact Int.mul_le_mul_of_nonneg_right (by omega) hz
    · rw [if_neg a, if_neg (by omega)]
      simp
  have e2 : ((j * stepN len step : Nat) : Int) ≤ (if (1 : Int) < (len : Int) then ((len : Int) - 1) * step else 0) := by
    unfold stepN
    by_cases a : 1 < len
    · rw [if_pos a, if_pos (by omega)]
      have hz := (h2 (by omega)).1
      rw [Int.natCast_mul, Int.toNat_of_nonneg hz]
      exact Int.mul_le_mul_of_nonneg_right (by omega) hz
    · rw [if_neg a, if_neg (by omega)]
      simp
  unfold endOf at h3
  omega

theorem stepN_mod (n : Nat) (line : Int) (h : 1 < n → 0 ≤ line ∧ line % 4 = 0) (i : Nat) : (i * stepN n line) % 4 = 0 := by
  have h0 : stepN n line % 4 = 0 := by
    unfold stepN
    by_cases a : 1 < n
    · rw [if_pos a]
      obtain ⟨b, c⟩ := h a
      omega
    · rw [if_neg a]
  rw [Nat.mul_mod, h0]
  simp

theorem zzbox_any (nd ns N Len R : Nat) (dlI dsI slI ssI : Int) (dl ds sl ss : Nat) (old zs col : List Int)
    (hnd : nd ≤ 1048576) (hns : ns ≤ 1048576) (hN : N ≤ 65536) (hLen : Len ≤ 65536) (hL1 : 1 ≤ Len) (hR : R ≤ 65536)
    (hdl : Steps N dlI dl) (hds : Steps Len dsI ds) (hsl : Steps N slI sl) (hss : Steps Len ssI ss)
    (hPd : ∀ i j, i < N → j < Len → i * dl + j * ds + 4 ≤ nd) (hPs : ∀ i j, i < N → j < Len → i * sl + j * ss + 4 ≤ ns)
    (hmod : ∀ i j, i < N → j < Len → (i * dl + j * ds) % 4 = 0) (hcol : ∀ c, c < 4 → 0 ≤ col.getD c 0 ∧ col.getD c 0 ≤ 255)
    (hflat : FlatP zs col sl ss N Len) : BoxSaid nd ns N Len R dlI dsI slI ssI dl ds sl ss old zs col := by
  intro gd gs w hg hod hos
  have H := hid (box_any gd gs nd ns N Len R dlI dsI slI ssI dl ds sl ss old zs col w hnd hns hN hLen hL1 hR hg hdl hds hsl hss hPd hPs hmod hcol hod hos hflat)
  clear hdl hds hsl hss hPd hPs hmod hcol hod hos hflat
  go_enter Try.func14, Try.ntmps14
  go_wp2_with (go_at_call 27; refine (Hid.out H).mono ?_; rintro e w' ⟨rfl, hb⟩)
  go_end0
  exact ⟨rfl, hb⟩

theorem main_any (ad sa : Option Addr) (nd cd ns cs : Nat) (dlI dsI slI ssI n len reach c0 c1 c2 c3 : Int) (zd zs : List Int) (w : World) (hm1 : nd ≤ maxLen) (hm2 : ns ≤ maxLen)
    (hd : Rd w ad nd zd) (hcd : ad = none → cd = 0) (hsr : Rd w sa ns zs) (hcs : sa = none → cs = 0)
    (b0 : 0 ≤ c0 ∧ c0 ≤ 255) (b1 : 0 ≤ c1 ∧ c1 ≤ 255) (b2 : 0 ≤ c2 ∧ c2 ≤ 255) (b3 : 0 ≤ c3 ∧ c3 ≤ 255) :
    Calls Try.prog 4 #[.slice ad nd cd, .int .i64 dlI, .int .i64 dsI, .slice sa ns cs, .int .i64 slI, .int .i64 ssI, .int .i64 n, .int .i64 len, .int .i64 reach, .agg #[.int .u8 c0, .int .u8 c1, .int .u8 c2, .int .u8 c3]] w fun e w' =>
      e = .returned (.bool true) ∧ Below w.heap.size w w' := by
  by_cases x1 : 1048576 < nd ∨ 1048576 < ns ∨ 1048576 < nd + ns
  · exact early1 _ _ _ _ _ _ _ _ _ _ _ _ _ _ _ _ _ w hm1 hm2 x1
  have hs : nd + ns ≤ 1048576 := by omega
  by_cases x2 : 65536 < n ∨ 65536 < len ∨ reach < 0 ∨ 65536 < reach
  · exact early3 _ _ _ _ _ _ _ _ _ _ _ _ _ _ _ _ _ w hs x2
  obtain ⟨R, rfl⟩ : ∃ R : Nat, reach = (R : Int) := ⟨reach.toNat, by omega⟩
  by_cases x3 : n ≤ 0
  · exact main_none ad sa nd cd ns cs dlI dsI slI ssI n len c0 c1 c2 c3 R zd zs w hs x3 (by omega) (by omega) hd hcd hsr hcs
  obtain ⟨N, rfl⟩ : ∃ N : Nat, n = (N : Int) := ⟨n.toNat, by omega⟩
  cases hf : fitsB nd dlI dsI N len
  · exact early4a _ _ _ _ _ _ _ _ _ _ _ _ _ _ _ _ _ w hs (by omega) (by omega) (by omega) (by omega) (by omega) hf
  cases hg : fitsB ns slI ssI N len
  · exact early4b _ _ _ _ _ _ _ _ _ _ _ _ _ _ _ _ _ w hs (by omega) (by omega) (by omega) (by omega) (by omega) hf hg
  have hl : 1 ≤ len := by
    unfold fitsB at hf
    exact (of_decide_eq_true hf).1
  obtain ⟨Len, rfl⟩ : ∃ L : Nat, len = (L : Int) := ⟨len.toNat, by omega⟩
  by_cases x5 : 1048576 < (N : Int) * (Len : Int)
  · exact early5a _ _ _ _ _ _ _ _ _ _ _ _ _ _ _ _ _ w hs (by omega) (by omega) (by omega) (by omega) (by omega) hf hg hl x5
  by_cases x6 : 4194304 < (N : Int) * (2 * (R : Int) + 1)
  · exact early5b _ _ _ _ _ _ _ _ _ _ _ _ _ _ _ _ _ w hs (by omega) (by omega) (by omega) (by omega) (by omega) hf hg hl (by omega) x6
  obtain ⟨d1, d2, d3⟩ := ends nd N Len dlI dsI (by omega) (by omega) hf
  obtain ⟨s1, s2, s3⟩ := ends ns N Len slI ssI (by omega) (by omega) hg
  by_cases x7 : 1 < N ∧ dlI % 4 ≠ 0
  · exact early6a _ _ _ _ _ _ _ _ _ _ _ _ _ _ _ _ _ w hs (by omega) (by omega) (by omega) (by omega) (by omega) hf hg hl (by omega) (by omega) (by omega) (d1 x7.1) (by simpa using x7.2)
  by_cases x8 : 1 < Len ∧ dsI % 4 ≠ 0
  · exact early6b _ _ _ _ _ _ _ _ _ _ _ _ _ _ _ _ _ w hs (by omega) (by omega) (by omega) (by omega) (by omega) hf hg hl (by omega) (by omega) (by by_cases a : 1 < N; exact .inr ⟨by omega, d1 a, by omega⟩; exact .inl (by omega)) (by omega) (d2 x8.1) (by simpa using x8.2)
  have hdp := d3 0 0 (by omega) (by omega)
  have hsp := s3 0 0 (by omega) (by omega)
  cases ad with
  | none => have := hd.2.1 rfl; omega
  | some ad =>
  cases sa with
  | none => have := hsr.2.1 rfl; omega
  | some sa =>
  have m1 : 1 < N → 0 ≤ dlI ∧ dlI % 4 = 0 := fun a => ⟨d1 a, by omega⟩
  have m2 : 1 < Len → 0 ≤ dsI ∧ dsI % 4 = 0 := fun a => ⟨d2 a, by omega⟩
  refine main_good ad sa nd cd ns cs N Len R (stepN N dlI) (stepN Len dsI) (stepN N slI) (stepN Len ssI) dlI dsI slI ssI c0 c1 c2 c3 zd zs w hs (by omega) (by omega) (by omega) (by omega) (by omega) hd hsr hf hg (by omega) (by omega)
    (steps_of _ _ d1) (steps_of _ _ d2) (steps_of _ _ s1) (steps_of _ _ s2) d3 s3 m1 m2 (fun hfl => zzbox_any nd ns N Len R dlI dsI slI ssI _ _ _ _ zd zs _ (by omega) (by omega) (by omega) (by omega) (by omega) (by omega) (steps_of _ _ d1) (steps_of _ _ d2) (steps_of _ _ s1) (steps_of _ _ s2) d3 s3 (fun i j _ _ => ?_) (fun c hc => ?_) hfl)
  · have e1 := stepN_mod N dlI m1 i
    have e2 := stepN_mod Len dsI m2 j
    omega
  · match c, hc with
    | 0, _ => exact b0
    | 1, _ => exact b1
    | 2, _ => exact b2
    | 3, _ => exact b3

end Go.Proofs.Qxb6602704a.Wk
