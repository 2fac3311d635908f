import Derived.Test.Qxb6602662aDoorStr
namespace Go.Proofs.Qxb6602662aDoor.Wk
open Go.ChangeShapes Go.WideShapes Go.ChangeAt Go.RowKit
set_option linter.unusedVariables false

theorem take_snoc (s : ByteArray) (k : Nat) (h : k < s.size) : s.data.toList.take (k + 1) = s.data.toList.take k ++ [s[k]] := by
  rw [List.take_succ_eq_append_getElem (by simpa using h)]; rfl

theorem int_eq {k : IntKind} {a b : Int} (h : a = b) : Value.int k a = Value.int k b := by rw [h]

/-- What the second loop has reckoned behind k rounds. -/
def hv (D f0 f1 k : Nat) : Nat := if k = 0 then D else if k = 1 then D * 10 + f0 else (D * 10 + f0) * 10 + f1

/-- A fraction's text and its two digits, a missing one 0. -/
def Frac (t : ByteArray) (f0 f1 : Nat) : Prop :=
  (∀ h : 0 < t.size, t[0].toNat = 48 + f0) ∧ (∀ h : 1 < t.size, t[1].toNat = 48 + f1) ∧ (t.size ≤ 0 → f0 = 0) ∧ (t.size ≤ 1 → f1 = 0) ∧ f0 ≤ 9 ∧ f1 ≤ 9 ∧ t.size ≤ 2

set_option maxHeartbeats 1000000 in
theorem hun_in (s t : ByteArray) (D f0 f1 : Nat) (w : World) (hs : s.size ≤ 100) (hd : AllDig s) (hD : dval s.data.toList = D) (hb : (D * 10 + f0) * 10 + f1 ≤ 9223372036854775807) (hf : Frac t f0 f1) :
    Calls Tryd.prog 14 #[.string s, .string t] w fun e w' => e = .returned (.int .i64 (((D * 10 + f0) * 10 + f1 : Nat) : Int)) ∧ w' = w := by
  have HD := hid hd
  have HDV := hid hD
  have HF := hid hf
  have HB := hid hb
  have ht2 : t.size ≤ 2 := hf.2.2.2.2.2.2
  have hDm : D ≤ 92233720368547758 := by omega
  clear hd hD hf hb
  go_enter Tryd.func14, Tryd.ntmps14
  go_wp2
  go_loop [5, 6] (fun n i => ∃ k m : Nat, k ≤ s.size ∧ m ≤ 92233720368547758 ∧ i = .int .i64 k ∧ n = .int .i64 m ∧ Hid (m = dval (s.data.toList.take k))) (fun _ i => s.size - (intOf i).toNat)
  case atStart => exact ⟨0, 0, Nat.zero_le _, by omega, rfl, rfl, rfl⟩
  case round =>
    obtain ⟨k, m, hk, hm, rfl, rfl, HM⟩ := hrel
    by_cases hlt : k < s.size
    · obtain ⟨q1, q2⟩ := HD.out k hlt
      have hv2 : m * 10 + (s[k].toNat - 48) ≤ 92233720368547758 := by
        have h1 := dval_take_le s.data.toList (k + 1)
        rw [take_snoc s k hlt, dval_snoc, ← HM.out, HDV.out] at h1
        omega
      have HN : Hid (m * 10 + (s[k].toNat - 48) = dval (s.data.toList.take (k + 1))) := by
        show m * 10 + (s[k].toNat - 48) = dval (s.data.toList.take (k + 1))
        rw [take_snoc s k hlt, dval_snoc, ← HM.out]
      have hv3 : (m : Int) * 10 + ((s[k].toNat : Int) - 48) ≤ 92233720368547758 := by omega
      have HV2 := hid hv2
      clear hv2
      go_wp2
      go_round
      case rel => exact ⟨k + 1, m * 10 + (s[k].toNat - 48), by omega, HV2.out, by go_num, int_eq (by omega), HN⟩
      case measure => simp [intOf]; omega
    · have HE : Hid (m = D) := by
        have h := HM.out
        rw [List.take_of_length_le (by simp; omega), HDV.out] at h
        exact h
      obtain rfl : m = D := HE.out
      clear HM HE
      go_wp2
      go_loop [5, 7] (fun n i => ∃ k : Nat, k ≤ 2 ∧ i = .int .i64 k ∧ n = .int .i64 (hv m f0 f1 k)) (fun _ i => 2 - (intOf i).toNat)
      case atStart => exact ⟨0, by omega, rfl, rfl⟩
      case round =>
        obtain ⟨j, hj, rfl, rfl⟩ := hrel
        by_cases hj2 : j < 2
        · obtain ⟨x, hx⟩ : ∃ x, x = hv m f0 f1 j := ⟨_, rfl⟩
          rw [← hx]
          have HX := hid hx
          have HFF := HF.out
          obtain ⟨a1, a2, a3, a4, a5, a6, a7⟩ := HFF
          have A1 := hid a1
          have A2 := hid a2
          have A3 := hid a3
          have A4 := hid a4
          have hxb : x ≤ 922337203685477580 := by
            have := HB.out
            rw [hx]
            unfold hv
            split
            · omega
            · split <;> omega
          clear hx a1 a2 a3 a4
          by_cases hc : j < t.size
          · have hq : 48 ≤ (t[j].toNat : Int) ∧ (t[j].toNat : Int) ≤ 57 ∧ x * 10 + (t[j].toNat - 48) = hv m f0 f1 (j + 1) ∧ hv m f0 f1 (j + 1) ≤ 9223372036854775807 := by
              have hb' := HB.out
              match j, hj2, hc, HX with
              | 0, _, hc, HX =>
                have e := A1.out hc
                have hx : x = m := HX.out
                refine ⟨by omega, by omega, ?_, ?_⟩
                · show x * 10 + (t[0].toNat - 48) = m * 10 + f0
                  rw [e, hx]; omega
                · show m * 10 + f0 ≤ _
                  omega
              | 1, _, hc, HX =>
                have e := A2.out hc
                have hx : x = m * 10 + f0 := HX.out
                refine ⟨by omega, by omega, ?_, ?_⟩
                · show x * 10 + (t[1].toNat - 48) = (m * 10 + f0) * 10 + f1
                  rw [e, hx]; omega
                · show (m * 10 + f0) * 10 + f1 ≤ _
                  exact hb'
            obtain ⟨q1, q2, q3, q4⟩ := hq
            have q5 : (x : Int) * 10 + ((t[j].toNat : Int) - 48) ≤ 9223372036854775807 := by omega
            have Q3 := hid q3
            clear q3 q4
            go_wp2
            go_round
            case rel => exact ⟨j + 1, by omega, by go_num, int_eq (by have := Q3.out; omega)⟩
            case measure => simp [intOf]; omega
          · have hq : x * 10 = hv m f0 f1 (j + 1) := by
              match j, hj2, hc, HX with
              | 0, _, hc, HX =>
                have e := A3.out (by omega)
                have hx : x = m := HX.out
                show x * 10 = m * 10 + f0
                omega
              | 1, _, hc, HX =>
                have e := A4.out (by omega)
                have hx : x = m * 10 + f0 := HX.out
                show x * 10 = (m * 10 + f0) * 10 + f1
                omega
            have Q3 := hid hq
            clear hq
            go_wp2
            go_round
            case rel => exact ⟨j + 1, by omega, by go_num, int_eq (by have := Q3.out; omega)⟩
            case measure => simp [intOf]; omega
        · obtain rfl : j = 2 := by omega
          go_wp2
          go_ret
          exact ⟨rfl, rfl⟩

theorem hun_out (s t : ByteArray) (D f0 f1 : Nat) (w : World) (hs : s.size ≤ 100) (hd : AllDig s) (hD : dval s.data.toList = D) (hb : (D * 10 + f0) * 10 + f1 ≤ 9223372036854775807) (hf : Frac t f0 f1) :
    Calls Tryd.prog 10 #[.string s, .string t] w fun e w' => e = .returned (.int .i64 (((D * 10 + f0) * 10 + f1 : Nat) : Int)) ∧ w' = w := by
  have H := hid (hun_in s t D f0 f1 w hs hd hD hb hf)
  clear hd hD hb hf
  go_enter Tryd.func10, Tryd.ntmps10
  go_wp2_with (go_at_call 14; refine (Hid.out H).mono ?_; rintro e w' ⟨rfl, rfl⟩)
  go_ret
  exact ⟨rfl, rfl⟩

end Go.Proofs.Qxb6602662aDoor.Wk
