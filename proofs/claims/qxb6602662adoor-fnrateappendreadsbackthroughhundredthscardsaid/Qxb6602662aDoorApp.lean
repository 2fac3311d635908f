import Derived.Test.Qxb6602662aDoorMem
namespace Go.Proofs.Qxb6602662aDoor.Wk
open Go.ChangeShapes Go.WideShapes Go.ChangeAt Go.RowKit
set_option linter.unusedVariables false

theorem dec_len (u : Nat) (hu : u < 18446744073709551616) : 1 ≤ (Lib.decDigits u).length ∧ (Lib.decDigits u).length ≤ 20 := by
  rw [Lib.decDigits_length]
  by_cases h10 : u < 10
  · rw [Lib.nDigits_small h10]; omega
  · have := Lib.numDigits_eq u (by omega) hu
    have h2 := Lib.nDigits_big h10
    split at this <;> omega

/-- internal AppendUint at base 10, a number below 100, onto a slice without spare room. -/
theorem uint_small (n u : Nat) (hu : u < 100) (sv : Value) (xs : List Value) (w : World) (hF : Full w sv n xs) (hlim : n + 20 ≤ 140737488355328) :
    Calls Tryd.prog 16 #[sv, .int .u64 u, .int .i64 10] w fun e w' => ∃ v', e = .returned v' ∧ w'.ownsRow w.heap.size 5 1 v' (n + (Lib.decDigits u).length) (xs ++ Lib.byteCells (Lib.decDigits u)) ∧ Below w.heap.size w w' := by
  obtain ⟨l1, l2⟩ := dec_len u (by omega)
  have hsz : (⟨(Lib.decDigits u).toArray⟩ : ByteArray).size = (Lib.decDigits u).length := by simp [ByteArray.size]
  have iu : (u : Int) < 100 := by omega
  have HS := hid hsz
  clear hsz
  have HF := hid hF
  clear hF
  go_enter Tryd.func16, Tryd.ntmps16
  go_wp2_with (first
    | (go_at_call 17; refine (Tryd.internal_strconv_small u hu _).mono ?_; rintro e w' ⟨rfl, rfl⟩)
    | (at_builtin; refine wpList_full_string _ rfl _ _ rfl sv n xs rfl (Hid.out HF) ⟨(Lib.decDigits u).toArray⟩ rfl (by rw [HS.out]; omega) (by rw [HS.out]; omega) ?_; intro v' w1 hown hgrow))
  go_ret
  refine ⟨v', rfl, ?_, (Below.refl _ _).grown hgrow (Nat.le_refl _) (by intro k hk; cases hk)⟩
  rw [HS.out] at hown
  exact hown

/-- What was without spare room is so in every later world that keeps the old blocks. -/
theorem Full.later {w w' : World} {sv : Value} {n : Nat} {xs : List Value} (h : Full w sv n xs) (hb : Below w.heap.size w w') : Full w' sv n xs := by
  obtain ⟨hl, h | ⟨a, rfl, hc⟩⟩ := h
  · exact ⟨hl, .inl h⟩
  · refine ⟨hl, .inr ⟨a, rfl, fun j u hu => ?_⟩⟩
    have h1 := hc j u hu
    rw [hb.cell (World.block_lt_of_cell? w _ h1)]
    exact h1

set_option maxHeartbeats 1600000 in
/-- internal AppendUint at base 10, a number from 100 on, onto a slice without spare room. -/
theorem uint_big (n u : Nat) (hu : 100 ≤ u) (hu64 : u < 18446744073709551616) (sv : Value) (xs : List Value) (w : World) (hF : Full w sv n xs) (hlim : n + 20 ≤ 140737488355328)
    (htab : Lib.TabIs Tryd.prog w tabName .u64 Lib.pow10Tab) :
    Calls Tryd.prog 16 #[sv, .int .u64 u, .int .i64 10] w fun e w' => ∃ v', e = .returned v' ∧ w'.ownsRow w.heap.size 5 1 v' (n + (Lib.decDigits u).length) (xs ++ Lib.byteCells (Lib.decDigits u)) ∧ Below w.heap.size w w' := by
  have hu1 : 1 ≤ u := by omega
  obtain ⟨l1, l2⟩ := dec_len u hu64
  rw [Lib.decDigits_length] at l1 l2
  have hH0 := Lib.holds_zero0 w 33 (Lib.nDigits u) (by omega)
  have hfmt := Tryd.internal_strconv_formatBase10 w.heap.size 0 24 u (Array.replicate (Lib.nDigits u) 0) (w.alloc (.cells Lib.zeros24 33)) hH0 (by rw [Array.size_replicate]; exact Lib.lt_pow_nDigits u) hu64 (by rw [Array.size_replicate]; omega)
  rw [Array.size_replicate] at hfmt
  have HH0 := hid hH0
  have HFM := hid hfmt
  have HT := hid (Lib.tabIs_alloc htab (.cells Lib.zeros24 33))
  have HF := hid hF
  have iu : (100 : Int) ≤ (u : Int) := by omega
  have ind : ((Lib.nDigits u : Nat) : Int) ≤ 24 := by omega
  clear hH0 hfmt htab hF
  go_enter Tryd.func16, Tryd.ntmps16
  go_wp2_with fail
  refine (Tryd.internal_strconv_numDigits u hu1 hu64 _ (by exact HT.out)).mono ?_
  rintro e w' ⟨rfl, rfl⟩
  go_wp2_with fail
  refine (Hid.out HFM).mono ?_
  rintro e w' ⟨rfl, k, v', dk, rfl, hFI⟩
  have hcells : ∀ j u', (Lib.byteCells (Lib.decDigits u))[j]? = some u' → ((Sort.putRow (fun (b : UInt8) => Value.int .u8 (b.toNat : Int)) (w.alloc (.cells Lib.zeros24 33)) w.heap.size 0 dk).drewN k).cell? ((⟨w.heap.size, 0, none⟩ : Addr).add j) = some u' := by
    intro j u' hj
    have hjl : j < (Lib.decDigits u).length := by
      have h5 := (List.getElem?_eq_some_iff.1 hj).1
      rwa [Lib.byteCells_length] at h5
    have e5 : (Lib.byteCells (Lib.decDigits u))[j]? = some (Value.int .u8 ((Lib.decDigits u)[j].toNat : Int)) := by simp [Lib.byteCells, hjl]
    rw [e5] at hj
    cases hj
    rw [Lib.row_is_numeral hFI j hjl, Lib.add_plain, World.cell?_drewN]
    exact Sort.cell?_putRow (fun (b : UInt8) => Value.int .u8 (b.toNat : Int)) _ w.heap.size 0 _ dk HH0.out (by rw [hFI.size, Array.size_replicate]) j (by rw [hFI.size]; rw [Lib.decDigits_length] at hjl; exact hjl)
  obtain ⟨os, eo⟩ := Lib.fin_at w (.cells Lib.zeros24 33) dk k 0
  have hnx2 : Below w.heap.size w ((Sort.putRow (fun (b : UInt8) => Value.int .u8 (b.toNat : Int)) (w.alloc (.cells Lib.zeros24 33)) w.heap.size 0 dk).drewN k) := by rw [eo]; exact Lib.below_grow w.heap.size w (Nat.le_refl _) k os
  generalize (Sort.putRow (fun (b : UInt8) => Value.int .u8 (b.toNat : Int)) (w.alloc (.cells Lib.zeros24 33)) w.heap.size 0 dk).drewN k = W2 at hcells hnx2 ⊢
  have HF2 := hid (HF.out.later hnx2)
  have HC := hid hcells
  have HN := hid hnx2
  clear eo HH0 HFM HF hcells hnx2
  go_wp2_with (at_builtin; refine wpList_full _ rfl _ _ rfl sv n xs rfl (Hid.out HF2) ⟨w.heap.size, 0, none⟩ (Lib.nDigits u) 24 (Lib.byteCells (Lib.decDigits u)) rfl (by omega) (by rw [Lib.byteCells_length, Lib.decDigits_length]) (Hid.out HC) (by intro u' hu'; simp only [Lib.byteCells, List.mem_map] at hu'; obtain ⟨b, _, rfl⟩ := hu'; rfl) (by omega) ?_; intro v2 w3 hown hgrow)
  go_ret
  have hs := HN.out.size
  refine ⟨v2, rfl, ?_, HN.out.grown hgrow hs (by intro k hk; cases hk)⟩
  rw [Lib.decDigits_length]
  obtain ⟨q1, q2 | ⟨g, cap, cur, h1, h2, h3⟩⟩ := hown
  · exact ⟨q1, .inl q2⟩
  · exact ⟨q1, .inr ⟨g, cap, cur, h1, by omega, h3⟩⟩

/-- The same, of whatever size. -/
theorem uint_any (n u : Nat) (hu64 : u < 18446744073709551616) (sv : Value) (xs : List Value) (w : World) (hF : Full w sv n xs) (hlim : n + 20 ≤ 140737488355328)
    (htab : Lib.TabIs Tryd.prog w tabName .u64 Lib.pow10Tab) :
    Calls Tryd.prog 16 #[sv, .int .u64 u, .int .i64 10] w fun e w' => ∃ v', e = .returned v' ∧ w'.ownsRow w.heap.size 5 1 v' (n + (Lib.decDigits u).length) (xs ++ Lib.byteCells (Lib.decDigits u)) ∧ Below w.heap.size w w' := by
  by_cases h : u < 100
  · exact uint_small n u h sv xs w hF hlim
  · exact uint_big n u (by omega) hu64 sv xs w hF hlim htab

/-- internal AppendInt at base 10, a number that is not negative, onto a slice without spare room. -/
theorem int_in (n u : Nat) (hu64 : u < 9223372036854775808) (sv : Value) (xs : List Value) (w : World) (hF : Full w sv n xs) (hlim : n + 20 ≤ 140737488355328)
    (htab : Lib.TabIs Tryd.prog w tabName .u64 Lib.pow10Tab) :
    Calls Tryd.prog 15 #[sv, .int .i64 u, .int .i64 10] w fun e w' => ∃ v', e = .returned v' ∧ w'.ownsRow w.heap.size 5 1 v' (n + (Lib.decDigits u).length) (xs ++ Lib.byteCells (Lib.decDigits u)) ∧ Below w.heap.size w w' := by
  have HU := hid (uint_any n u (by omega) sv xs w hF hlim htab)
  clear hF htab
  have iu : (u : Int) ≤ 9223372036854775807 := by omega
  clear hu64
  go_enter Tryd.func15, Tryd.ntmps15
  go_wp2_with (go_at_call 16; refine (Hid.out HU).mono ?_; rintro e w1 ⟨v', rfl, hown, hb⟩)
  go_ret
  exact ⟨v', rfl, hown, hb⟩

/-- strconv.AppendInt at base 10, a number that is not negative, onto a slice without spare room. -/
theorem int_out (n u : Nat) (hu64 : u < 9223372036854775808) (sv : Value) (xs : List Value) (w : World) (hF : Full w sv n xs) (hlim : n + 20 ≤ 140737488355328)
    (htab : Lib.TabIs Tryd.prog w tabName .u64 Lib.pow10Tab) :
    Calls Tryd.prog 11 #[sv, .int .i64 u, .int .i64 10] w fun e w' => ∃ v', e = .returned v' ∧ w'.ownsRow w.heap.size 5 1 v' (n + (Lib.decDigits u).length) (xs ++ Lib.byteCells (Lib.decDigits u)) ∧ Below w.heap.size w w' := by
  have HU := hid (int_in n u hu64 sv xs w hF hlim htab)
  clear hF htab hu64
  go_enter Tryd.func11, Tryd.ntmps11
  go_wp2_with (go_at_call 15; refine (Hid.out HU).mono ?_; rintro e w1 ⟨v', rfl, hown, hb⟩)
  go_ret
  exact ⟨v', rfl, hown, hb⟩

end Go.Proofs.Qxb6602662aDoor.Wk
