import Derived.Test.Qxb6602704aFits
namespace Go.Proofs.Qxb6602704a.Wk
open Go.ChangeShapes Go.WideShapes Go.ChangeAt Go.RowKit
set_option linter.unusedVariables false

/-- Every pixel of the first N lines is of the colour. -/
def FlatP (zs col : List Int) (dl ds N Len : Nat) : Prop := ∀ i, i < N → ∀ j, j < Len → ∀ c, c < 4 → zs.getD (i * dl + j * ds + c) 0 = col.getD c 0

/-- How a line's or a pixel's place is reckoned: only where there is more than one. -/
def Steps (n : Nat) (line : Int) (dl : Nat) : Prop := ∀ i, i < n → (if (1 : Int) < (n : Int) then (i : Int) * line else 0) = ((i * dl : Nat) : Int)

theorem dn2 (w : World) (m k : Nat) : (w.drewN m).drewN k = w.drewN (m + k) := by simp [World.drewN, Nat.add_assoc]

def colV (col : List Int) : Array Value := #[.int .u8 (col.getD 0 0), .int .u8 (col.getD 1 0), .int .u8 (col.getD 2 0), .int .u8 (col.getD 3 0)]

theorem colV_at (col : List Int) (c : Nat) (h : c < 4) : (colV col)[c]? = some (.int .u8 (col.getD c 0)) := by
  match c, h with
  | 0, _ => rfl
  | 1, _ => rfl
  | 2, _ => rfl
  | 3, _ => rfl

set_option maxHeartbeats 1600000 in
theorem flat_any (b off ns cs : Nat) (line step : Int) (N Len dl ds : Nat) (zs col : List Int) (w : World) (hns : ns ≤ 1048576) (hN : N ≤ 65536) (hLen : Len ≤ 65536)
    (hX : Steps N line dl) (hY : Steps Len step ds) (hP : ∀ i j, i < N → j < Len → i * dl + j * ds + 4 ≤ ns)
    (hc : ∀ j, j < ns → w.cell? ⟨b, off + j, none⟩ = some (.int .u8 (zs.getD j 0))) :
    Calls Try.prog 17 #[.slice (some ⟨b, off, none⟩) ns cs, .int .i64 line, .int .i64 step, .int .i64 N, .int .i64 Len, .agg (colV col)] w fun e w' =>
      ∃ r : Bool, e = .returned (.bool r) ∧ (r = true → FlatP zs col dl ds N Len) ∧ Below w.heap.size w w' := by
  have HX := hid hX
  have HY := hid hY
  have HP := hid hP
  have HC := hid hc
  clear hX hY hP hc
  go_enter Try.func17, Try.ntmps17
  go_wp2
  have HC1 := hid fun (j : Nat) (hj : j < ns) => (by
    have h := HC.out j hj
    rw [((Below.refl w.heap.size w).alloc (Nat.le_refl _) (.cells (colV col) 29)).cell (p := ⟨b, off + j, none⟩) (World.block_lt_of_cell? w _ h)]
    exact h : (w.alloc (.cells (colV col) 29)).cell? ⟨b, off + j, none⟩ = some (.int .u8 (zs.getD j 0)))
  have HC2 := hid fun (c : Nat) (hc : c < 4) => (by rw [World.cell?_alloc_new, colV_at col c hc] : (w.alloc (.cells (colV col) 29)).cell? ⟨w.heap.size, c, none⟩ = some (.int .u8 (col.getD c 0)))
  have HB := hid ((Below.refl w.heap.size w).alloc (Nat.le_refl _) (.cells (colV col) 29))
  generalize w.alloc (.cells (colV col) 29) = W1 at HC1 HC2 HB ⊢
  clear HC
  go_loopw [13] (fun iv wr => ∃ i m : Nat, i ≤ N ∧ iv = .int .i64 i ∧ wr = W1.drewN m ∧ Hid (∀ i', i' < i → ∀ j, j < Len → ∀ c, c < 4 → zs.getD (i' * dl + j * ds + c) 0 = col.getD c 0)) (fun i _ => N - (intOf i).toNat)
  case atStart => exact ⟨0, 0, by omega, rfl, rfl, fun _ h => by omega⟩
  case round =>
    obtain ⟨i, m, hi, rfl, rfl, HI⟩ := hrel
    by_cases hiN : i < N
    · have hx := HX.out i hiN
      obtain ⟨X, eX⟩ : ∃ X, X = i * dl := ⟨_, rfl⟩
      rw [← eX] at hx
      have EX := hid eX
      have HP1 := hid fun (j : Nat) (hj : j < Len) => (by have := HP.out i j hiN hj; rw [← eX] at this; exact this : X + j * ds + 4 ≤ ns)
      clear eX
      have HHX := hid hx
      clear hx
      go_wp2
      go_loopw [14] (fun jv wr => ∃ j m : Nat, j ≤ Len ∧ jv = .int .i64 j ∧ wr = W1.drewN m ∧ Hid (∀ j', j' < j → ∀ c, c < 4 → zs.getD (X + j' * ds + c) 0 = col.getD c 0)) (fun j _ => Len - (intOf j).toNat)
      case atStart => exact ⟨0, m, by omega, rfl, rfl, fun _ h => by omega⟩
      case round =>
        obtain ⟨j, m', hj, rfl, rfl, HJ⟩ := hrel
        by_cases hjL : j < Len
        · have hy := HY.out j hjL
          obtain ⟨Y, eY⟩ : ∃ Y, Y = j * ds := ⟨_, rfl⟩
          rw [← eY] at hy
          have EY := hid eY
          have hp : X + Y + 4 ≤ ns := by have := HP1.out j hjL; rw [← eY] at this; exact this
          clear eY
          have hx := HHX.out
          obtain ⟨P, eP⟩ : ∃ P, P = X + Y := ⟨_, rfl⟩
          have EP := hid eP
          have hpP : P + 4 ≤ ns := by omega
          have HCP := hid fun (c : Nat) (hc : c < 4) => HC1.out (P + c) (by omega)
          clear eP
          by_cases hn1 : (1 : Int) < (N : Int) <;> by_cases hl1 : (1 : Int) < (Len : Int)
          all_goals
            first | rw [if_pos hn1] at hx | rw [if_neg hn1] at hx
            first | rw [if_pos hl1] at hy | rw [if_neg hl1] at hy
          · go_wp2
            rw [show (X : Int) + (Y : Int) = (P : Int) from by have := EP.out; omega]
            go_loopw [16] (fun cv wr => ∃ c m : Nat, c ≤ 4 ∧ cv = .int .i64 c ∧ wr = W1.drewN m ∧ Hid (∀ c', c' < c → zs.getD (P + c') 0 = col.getD c' 0)) (fun c _ => 4 - (intOf c).toNat)
            case atStart => exact ⟨0, m', by omega, rfl, rfl, fun _ h => by omega⟩
            case round =>
              obtain ⟨c, m2, hc, rfl, rfl, HK⟩ := hrel
              by_cases hc4 : c < 4
              · have q1 := HCP.out c hc4
                have q2 := HC2.out c hc4
                try simp only [Nat.zero_add] at q1
                obtain ⟨z, ez⟩ : ∃ z, z = zs.getD (P + c) 0 := ⟨_, rfl⟩
                obtain ⟨y, ey⟩ : ∃ y, y = col.getD c 0 := ⟨_, rfl⟩
                try simp only [Nat.zero_add] at ez
                rw [← ez] at q1
                rw [← ey] at q2
                have EZ := hid ez
                have EY2 := hid ey
                clear ez ey
                have b1 : (P : Int) + (c : Int) < (ns : Int) := by omega
                have b2 : (c : Int) < 4 := by omega
                have b3 : (c : Int) < (ns : Int) := by omega
                by_cases hzy : z = y
                · subst hzy
                  go_wp2
                  go_quiet (fail)
                  go_wp2
                  go_roundw
                  case rel =>
                    refine ⟨c + 1, _, by omega, by go_num, rfl, ?_⟩
                    intro c' hc'
                    by_cases he : c' = c
                    · subst he
                      try simp only [Nat.zero_add]
                      rw [← EZ.out, EY2.out]
                    · exact HK.out c' (by omega)
                  case measure => simp [intOf]; omega
                · have hne : (z == y) = false := by simpa using hzy
                  go_wp2
                  go_quiet (fail)
                  go_wp2
                  go_ret
                  exact ⟨false, rfl, (fun h => by cases h), below_drewN (below_drewN HB.out _) _⟩
              · have HN := hid (show ∀ j', j' < j + 1 → ∀ c, c < 4 → zs.getD (X + j' * ds + c) 0 = col.getD c 0 by
                  intro j' hj' c' hc'
                  by_cases he : j' = j
                  · subst he
                    have h1 := HK.out c' (by omega)
                    rw [← EY.out]
                    have h2 := EP.out
                    rw [show X + Y + c' = P + c' by omega]
                    exact h1
                  · exact HJ.out j' (by omega) c' hc')
                go_wp2
                go_roundw
                case rel => exact ⟨j + 1, m2, by omega, by go_num, rfl, HN⟩
                case measure => simp [intOf]; omega
          · obtain rfl : Y = 0 := by omega
            clear hy
            go_wp2
            rw [show (X : Int) = (P : Int) from by have := EP.out; omega]
            go_loopw [16] (fun cv wr => ∃ c m : Nat, c ≤ 4 ∧ cv = .int .i64 c ∧ wr = W1.drewN m ∧ Hid (∀ c', c' < c → zs.getD (P + c') 0 = col.getD c' 0)) (fun c _ => 4 - (intOf c).toNat)
            case atStart => exact ⟨0, m', by omega, rfl, rfl, fun _ h => by omega⟩
            case round =>
              obtain ⟨c, m2, hc, rfl, rfl, HK⟩ := hrel
              by_cases hc4 : c < 4
              · have q1 := HCP.out c hc4
                have q2 := HC2.out c hc4
                try simp only [Nat.zero_add] at q1
                obtain ⟨z, ez⟩ : ∃ z, z = zs.getD (P + c) 0 := ⟨_, rfl⟩
                obtain ⟨y, ey⟩ : ∃ y, y = col.getD c 0 := ⟨_, rfl⟩
                try simp only [Nat.zero_add] at ez
                rw [← ez] at q1
                rw [← ey] at q2
                have EZ := hid ez
                have EY2 := hid ey
                clear ez ey
                have b1 : (P : Int) + (c : Int) < (ns : Int) := by omega
                have b2 : (c : Int) < 4 := by omega
                have b3 : (c : Int) < (ns : Int) := by omega
                by_cases hzy : z = y
                · subst hzy
                  go_wp2
                  go_quiet (fail)
                  go_wp2
                  go_roundw
                  case rel =>
                    refine ⟨c + 1, _, by omega, by go_num, rfl, ?_⟩
                    intro c' hc'
                    by_cases he : c' = c
                    · subst he
                      try simp only [Nat.zero_add]
                      rw [← EZ.out, EY2.out]
                    · exact HK.out c' (by omega)
                  case measure => simp [intOf]; omega
                · have hne : (z == y) = false := by simpa using hzy
                  go_wp2
                  go_quiet (fail)
                  go_wp2
                  go_ret
                  exact ⟨false, rfl, (fun h => by cases h), below_drewN (below_drewN HB.out _) _⟩
              · have HN := hid (show ∀ j', j' < j + 1 → ∀ c, c < 4 → zs.getD (X + j' * ds + c) 0 = col.getD c 0 by
                  intro j' hj' c' hc'
                  by_cases he : j' = j
                  · subst he
                    have h1 := HK.out c' (by omega)
                    rw [← EY.out]
                    have h2 := EP.out
                    rw [show X + 0 + c' = P + c' by omega]
                    exact h1
                  · exact HJ.out j' (by omega) c' hc')
                go_wp2
                go_roundw
                case rel => exact ⟨j + 1, m2, by omega, by go_num, rfl, HN⟩
                case measure => simp [intOf]; omega
          · obtain rfl : X = 0 := by omega
            clear hx
            go_wp2
            rw [show (Y : Int) = (P : Int) from by have := EP.out; omega]
            go_loopw [16] (fun cv wr => ∃ c m : Nat, c ≤ 4 ∧ cv = .int .i64 c ∧ wr = W1.drewN m ∧ Hid (∀ c', c' < c → zs.getD (P + c') 0 = col.getD c' 0)) (fun c _ => 4 - (intOf c).toNat)
            case atStart => exact ⟨0, m', by omega, rfl, rfl, fun _ h => by omega⟩
            case round =>
              obtain ⟨c, m2, hc, rfl, rfl, HK⟩ := hrel
              by_cases hc4 : c < 4
              · have q1 := HCP.out c hc4
                have q2 := HC2.out c hc4
                try simp only [Nat.zero_add] at q1
                obtain ⟨z, ez⟩ : ∃ z, z = zs.getD (P + c) 0 := ⟨_, rfl⟩
                obtain ⟨y, ey⟩ : ∃ y, y = col.getD c 0 := ⟨_, rfl⟩
                try simp only [Nat.zero_add] at ez
                rw [← ez] at q1
                rw [← ey] at q2
                have EZ := hid ez
                have EY2 := hid ey
                clear ez ey
                have b1 : (P : Int) + (c : Int) < (ns : Int) := by omega
                have b2 : (c : Int) < 4 := by omega
                have b3 : (c : Int) < (ns : Int) := by omega
                by_cases hzy : z = y
                · subst hzy
                  go_wp2
                  go_quiet (fail)
                  go_wp2
                  go_roundw
                  case rel =>
                    refine ⟨c + 1, _, by omega, by go_num, rfl, ?_⟩
                    intro c' hc'
                    by_cases he : c' = c
                    · subst he
                      try simp only [Nat.zero_add]
                      rw [← EZ.out, EY2.out]
                    · exact HK.out c' (by omega)
                  case measure => simp [intOf]; omega
                · have hne : (z == y) = false := by simpa using hzy
                  go_wp2
                  go_quiet (fail)
                  go_wp2
                  go_ret
                  exact ⟨false, rfl, (fun h => by cases h), below_drewN (below_drewN HB.out _) _⟩
              · have HN := hid (show ∀ j', j' < j + 1 → ∀ c, c < 4 → zs.getD (0 + j' * ds + c) 0 = col.getD c 0 by
                  intro j' hj' c' hc'
                  by_cases he : j' = j
                  · subst he
                    have h1 := HK.out c' (by omega)
                    rw [← EY.out]
                    have h2 := EP.out
                    rw [show 0 + Y + c' = P + c' by omega]
                    exact h1
                  · exact HJ.out j' (by omega) c' hc')
                go_wp2
                go_roundw
                case rel => exact ⟨j + 1, m2, by omega, by go_num, rfl, HN⟩
                case measure => simp [intOf]; omega
          · obtain rfl : X = 0 := by omega
            obtain rfl : Y = 0 := by omega
            clear hx hy
            obtain rfl : P = 0 := by have := EP.out; omega
            go_wp2
            go_loopw [16] (fun cv wr => ∃ c m : Nat, c ≤ 4 ∧ cv = .int .i64 c ∧ wr = W1.drewN m ∧ Hid (∀ c', c' < c → zs.getD ((0 : Nat) + c') 0 = col.getD c' 0)) (fun c _ => 4 - (intOf c).toNat)
            case atStart => exact ⟨0, m', by omega, rfl, rfl, fun _ h => by omega⟩
            case round =>
              obtain ⟨c, m2, hc, rfl, rfl, HK⟩ := hrel
              by_cases hc4 : c < 4
              · have q1 := HCP.out c hc4
                have q2 := HC2.out c hc4
                try simp only [Nat.zero_add] at q1
                obtain ⟨z, ez⟩ : ∃ z, z = zs.getD ((0 : Nat) + c) 0 := ⟨_, rfl⟩
                obtain ⟨y, ey⟩ : ∃ y, y = col.getD c 0 := ⟨_, rfl⟩
                try simp only [Nat.zero_add] at ez
                rw [← ez] at q1
                rw [← ey] at q2
                have EZ := hid ez
                have EY2 := hid ey
                clear ez ey
                have b1 : ((0 : Nat) : Int) + (c : Int) < (ns : Int) := by omega
                have b2 : (c : Int) < 4 := by omega
                have b3 : (c : Int) < (ns : Int) := by omega
                by_cases hzy : z = y
                · subst hzy
                  go_wp2
                  go_quiet (fail)
                  go_wp2
                  go_roundw
                  case rel =>
                    refine ⟨c + 1, _, by omega, by go_num, rfl, ?_⟩
                    intro c' hc'
                    by_cases he : c' = c
                    · subst he
                      try simp only [Nat.zero_add]
                      rw [← EZ.out, EY2.out]
                    · exact HK.out c' (by omega)
                  case measure => simp [intOf]; omega
                · have hne : (z == y) = false := by simpa using hzy
                  go_wp2
                  go_quiet (fail)
                  go_wp2
                  go_ret
                  exact ⟨false, rfl, (fun h => by cases h), below_drewN (below_drewN HB.out _) _⟩
              · have HN := hid (show ∀ j', j' < j + 1 → ∀ c, c < 4 → zs.getD (0 + j' * ds + c) 0 = col.getD c 0 by
                  intro j' hj' c' hc'
                  by_cases he : j' = j
                  · subst he
                    have h1 := HK.out c' (by omega)
                    rw [← EY.out]
                    have h2 := EP.out
                    rw [show 0 + 0 + c' = (0 : Nat) + c' by omega]
                    exact h1
                  · exact HJ.out j' (by omega) c' hc')
                go_wp2
                go_roundw
                case rel => exact ⟨j + 1, m2, by omega, by go_num, rfl, HN⟩
                case measure => simp [intOf]; omega
        · have HN := hid (show ∀ i', i' < i + 1 → ∀ j, j < Len → ∀ c, c < 4 → zs.getD (i' * dl + j * ds + c) 0 = col.getD c 0 by
            intro i' hi' j' hj' c hc
            by_cases he : i' = i
            · subst he
              rw [← EX.out]
              exact HJ.out j' (by omega) c hc
            · exact HI.out i' (by omega) j' hj' c hc)
          go_wp2
          go_roundw
          case rel => exact ⟨i + 1, m', by omega, by go_num, rfl, HN⟩
          case measure => simp [intOf]; omega
    · have HN := hid (show FlatP zs col dl ds N Len from fun i' hi' j hj c hc => HI.out i' (by omega) j hj c hc)
      go_wp2
      go_ret
      exact ⟨true, rfl, fun _ => HN.out, below_drewN HB.out _⟩

end Go.Proofs.Qxb6602704a.Wk
