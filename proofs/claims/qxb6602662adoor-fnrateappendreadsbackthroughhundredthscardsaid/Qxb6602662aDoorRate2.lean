import Derived.Test.Qxb6602662aDoorRate
namespace Go.Proofs.Qxb6602662aDoor.Wk
open Go.ChangeShapes Go.WideShapes Go.ChangeAt Go.RowKit
set_option linter.unusedVariables false

/-- The hundredths, a last nought left off. -/
def fracCells (f : Nat) : List Value :=
  if f = 0 then [] else if f % 10 = 0 then [.int .u8 46, .int .u8 ((48 + f / 10 : Nat) : Int)] else [.int .u8 46, .int .u8 ((48 + f / 10 : Nat) : Int), .int .u8 ((48 + f % 10 : Nat) : Int)]

/-- The text of a rate that is not negative. -/
def rateCells (u : Nat) : List Value := Lib.byteCells (Lib.decDigits (u / 100)) ++ fracCells (u % 100)

theorem own_shape {w : World} {B n : Nat} {v : Value} {xs : List Value} (h : w.ownsRow B 5 1 v n xs) (hn : 0 < n) : ∃ g cap, v = .slice (some ⟨g, 0, none⟩) n cap ∧ n ≤ cap ∧ cap ≤ maxLen := by
  obtain ⟨_, ⟨_, rfl⟩ | ⟨g, cap, cur, hv, _, _, h1, h2, _⟩⟩ := h
  · omega
  · exact ⟨g, cap, hv, h1, h2⟩

theorem own_trim {w : World} {B n g cap : Nat} {xs ys : List Value} (h : w.ownsRow B 5 1 (.slice (some ⟨g, 0, none⟩) (n + 1) cap) (n + 1) xs) (hy : xs.take n = ys) : w.ownsRow B 5 1 (.slice (some ⟨g, 0, none⟩) n cap) n ys := by
  obtain ⟨hl, ⟨h', _⟩ | ⟨g', cap', cur, h', hb, hg, h1, h2, h3, h4⟩⟩ := h
  · simp at h'
  · simp only [Value.slice.injEq, Option.some.injEq, Addr.mk.injEq, and_true, true_and] at h'
    obtain ⟨rfl, rfl⟩ := h'
    refine ⟨by rw [← hy]; simp; omega, .inr ⟨g, cap, cur, rfl, hb, hg, by omega, h2, h3, ?_⟩⟩
    rw [← hy, ← h4, List.take_take]
    congr 1
    omega

theorem take_two {l : List Value} {a b c : Value} {k : Nat} (hk : k = l.length) : (l ++ [a, b, c]).take (k + 2) = l ++ [a, b] := by
  subst hk
  rw [List.take_append, List.take_of_length_le (by omega)]
  simp [Nat.add_sub_cancel_left]

theorem own_base {w : World} {B B' n : Nat} {v : Value} {xs : List Value} (h : w.ownsRow B 5 1 v n xs) (hB : B' ≤ B) : w.ownsRow B' 5 1 v n xs := by
  obtain ⟨q1, q2 | ⟨g, cap, cur, h1, h2, h3⟩⟩ := h
  · exact ⟨q1, .inl q2⟩
  · exact ⟨q1, .inr ⟨g, cap, cur, h1, by omega, h3⟩⟩

theorem own_len {w : World} {B n : Nat} {v : Value} {xs : List Value} (h : w.ownsRow B 5 1 v n xs) : n = xs.length := by simpa using h.1.symm

set_option maxHeartbeats 400000 in
theorem append_pos (n u : Nat) (hu : u ≤ 9223372036854775807) (sv : Value) (xs : List Value) (w : World) (hF : Full w sv n xs) (hlim : n ≤ 1048576)
    (htab : Lib.TabIs Tryd.prog w tabName .u64 Lib.pow10Tab) :
    Calls Tryd.prog 7 #[.int .i64 u, sv] w fun e w' => ∃ v', e = .returned v' ∧ w'.ownsRow w.heap.size 5 1 v' (xs ++ rateCells u).length (xs ++ rateCells u) ∧ Below w.heap.size w w' := by
  have HA := hid (int_out n (u / 100) (by omega) sv xs w hF (by omega) htab)
  obtain ⟨l1, l2⟩ := dec_len (u / 100) (by omega)
  have i1 : (u : Int) ≤ 9223372036854775807 := by omega
  clear hF htab hu
  by_cases c0 : u % 100 = 0
  · have j0 : (u : Int) % 100 = 0 := by omega
    have HE := hid (show rateCells u = Lib.byteCells (Lib.decDigits (u / 100)) by simp [rateCells, fracCells, c0])
    have HJ := hid j0
    clear c0 j0
    have j1 : ((u : Int) % 100 == 0) = true := by simp [HJ.out]
    go_enter Tryd.func7, Tryd.ntmps7
    go_wp2_with fail
    rw [show ((u : Int) / 100) = ((u / 100 : Nat) : Int) from by omega]
    refine (Hid.out HA).mono ?_
    rintro e w1 ⟨v', rfl, hown, hb⟩
    go_wp2
    go_ret
    refine ⟨v', rfl, ?_, hb⟩
    rw [HE.out, ← own_len hown]
    exact hown
  obtain ⟨f, hf⟩ : ∃ f, f = u % 100 := ⟨_, rfl⟩
  have f1 : f < 100 := by omega
  have f0 : 1 ≤ f := by omega
  have k1 : (u : Int) % 100 = (f : Int) := by omega
  have HK := hid k1
  by_cases c1 : f % 10 = 0
  · have HE := hid (show rateCells u = Lib.byteCells (Lib.decDigits (u / 100)) ++ [.int .u8 46, .int .u8 ((48 + f / 10 : Nat) : Int)] by simp [rateCells, fracCells, ← hf, c1, show f ≠ 0 by omega])
    have j1 : ((f : Int) == 0) = false := by simp; omega
    have j2 : ((f : Int) % 10 == 0) = true := by simp; omega
    clear c0 hf k1 c1
    go_enter Tryd.func7, Tryd.ntmps7
    go_wp2_with fail
    rw [show ((u : Int) / 100) = ((u / 100 : Nat) : Int) from by omega]
    refine (Hid.out HA).mono ?_
    rintro e w1 ⟨v', rfl, hown, hb⟩
    have k2 := HK.out
    go_wp2_with fail
    have hsz := hb.size
    refine (hund _ _ f f1 _ _ _ hown hsz (by omega)).mono ?_
    rintro e w2 ⟨v2, rfl, hown2, hb2⟩
    obtain ⟨g, cap, rfl, hc1, hc2⟩ := own_shape hown2 (by omega)
    have HO2 := hid hown2
    clear hown2
    unfold maxLen at hc2
    go_wp2
    go_ret
    refine ⟨_, rfl, ?_, hb.trans hb2⟩
    rw [HE.out, ← List.append_assoc]
    have ho := own_trim HO2.out (take_two (own_len hown))
    rw [← own_len ho]
    exact ho
  · have HE := hid (show rateCells u = Lib.byteCells (Lib.decDigits (u / 100)) ++ [.int .u8 46, .int .u8 ((48 + f / 10 : Nat) : Int), .int .u8 ((48 + f % 10 : Nat) : Int)] by simp [rateCells, fracCells, ← hf, c1, show f ≠ 0 by omega])
    have j1 : ((f : Int) == 0) = false := by simp; omega
    have j2 : ((f : Int) % 10 == 0) = false := by simp; omega
    clear c0 hf k1 c1
    go_enter Tryd.func7, Tryd.ntmps7
    go_wp2_with fail
    rw [show ((u : Int) / 100) = ((u / 100 : Nat) : Int) from by omega]
    refine (Hid.out HA).mono ?_
    rintro e w1 ⟨v', rfl, hown, hb⟩
    have k2 := HK.out
    go_wp2_with fail
    have hsz := hb.size
    refine (hund _ _ f f1 _ _ _ hown hsz (by omega)).mono ?_
    rintro e w2 ⟨v2, rfl, hown2, hb2⟩
    go_wp2
    go_ret
    refine ⟨_, rfl, ?_, hb.trans hb2⟩
    rw [HE.out, ← List.append_assoc, ← own_len hown2]
    exact hown2

theorem one_cell (w : World) (a : Value) (j : Nat) (u : Value) (h : [a][j]? = some u) : (w.alloc (.cells #[a] 5)).cell? ((⟨w.heap.size, 0, none⟩ : Addr).add j) = some u := by
  match j, h with
  | 0, h => simp at h; subst h; simp [Addr.add]

/-- strconv.AppendInt behind the sign. -/
theorem neg_rest (n u : Nat) (hu : u ≤ 9223372036854775807) (xs : List Value) (w w1 : World) (v1 : Value) (hown : w1.ownsRow w.heap.size 5 1 v1 (n + 1) (xs ++ [.int .u8 45])) (hb : Below w.heap.size w w1) (hlim : n ≤ 1048576)
    (htab : Lib.TabIs Tryd.prog w tabName .u64 Lib.pow10Tab) :
    Calls Tryd.prog 11 #[v1, .int .i64 ((u / 100 : Nat) : Int), .int .i64 10] w1 fun e w' => ∃ v', e = .returned v' ∧ w'.ownsRow w.heap.size 5 1 v' (n + 1 + (Lib.decDigits (u / 100)).length) (xs ++ [.int .u8 45] ++ Lib.byteCells (Lib.decDigits (u / 100))) ∧ Below w.heap.size w w' := by
  have h := Tryd.strconv_AppendInt_10 w.heap.size (n + 1) ((u / 100 : Nat) : Int) (by omega) (by omega) v1 _ w1 hown hb.size (by omega) ((Lib.tabBelow_of_tabIs htab).on hb)
  rw [Lib.itoa_nonneg] at h
  refine h.mono ?_
  rintro e w2 ⟨v', rfl, h1, h2, _⟩
  exact ⟨v', rfl, h1, hb.trans h2⟩

set_option maxHeartbeats 400000 in
theorem append_neg (n u : Nat) (hu : u ≤ 9223372036854775807) (hu1 : 1 ≤ u) (sv : Value) (xs : List Value) (w : World) (hF : Full w sv n xs) (hlim : n ≤ 1048576)
    (htab : Lib.TabIs Tryd.prog w tabName .u64 Lib.pow10Tab) :
    Calls Tryd.prog 7 #[.int .i64 (-(u : Int)), sv] w fun e w' => ∃ v', e = .returned v' ∧ w'.ownsRow w.heap.size 5 1 v' (xs ++ [Value.int .u8 45] ++ rateCells u).length (xs ++ [Value.int .u8 45] ++ rateCells u) ∧ Below w.heap.size w w' := by
  have HA := hid fun (w1 : World) (v1 : Value) (hown : w1.ownsRow w.heap.size 5 1 v1 (n + 1) (xs ++ [.int .u8 45])) (hb : Below w.heap.size w w1) => neg_rest n u hu xs w w1 v1 hown hb hlim htab
  have HF := hid (hF.later ((Below.refl w.heap.size w).alloc (Nat.le_refl _) (.cells #[Value.int .u8 45] 5)))
  obtain ⟨l1, l2⟩ := dec_len (u / 100) (by omega)
  have i1 : (u : Int) ≤ 9223372036854775807 := by omega
  have i2 : 1 ≤ (u : Int) := by omega
  clear hF htab hu
  by_cases c0 : u % 100 = 0
  · have j0 : (u : Int) % 100 = 0 := by omega
    have HE := hid (show rateCells u = Lib.byteCells (Lib.decDigits (u / 100)) by simp [rateCells, fracCells, c0])
    have HJ := hid j0
    clear c0 j0
    have j1 : ((u : Int) % 100 == 0) = true := by simp [HJ.out]
    go_enter Tryd.func7, Tryd.ntmps7
    go_wp2_with (at_builtin; refine wpList_full _ rfl _ _ rfl sv n xs rfl (Hid.out HF) ⟨w.heap.size, 0, none⟩ 1 1 [.int .u8 45] rfl (by omega) rfl (one_cell _ _) (by intro u hu; simp at hu; subst hu; rfl) (by omega) ?_; intro v1 w0 hown0 hgrow0)
    have hb0 : Below w.heap.size w w0 := ((Below.refl w.heap.size w).alloc (Nat.le_refl _) _).grown hgrow0 (by simp) (by intro k hk; cases hk)
    rw [show ((u : Int) / 100) = ((u / 100 : Nat) : Int) from by omega]
    refine (Hid.out HA w0 v1 (own_base hown0 (by simp)) hb0).mono ?_
    clear hown0 hgrow0
    rintro e w1 ⟨v', rfl, hown, hb⟩
    go_wp2
    go_ret
    refine ⟨v', rfl, ?_, hb⟩
    rw [HE.out, ← own_len hown]
    exact hown
  obtain ⟨f, hf⟩ : ∃ f, f = u % 100 := ⟨_, rfl⟩
  have f1 : f < 100 := by omega
  have f0 : 1 ≤ f := by omega
  have k1 : (u : Int) % 100 = (f : Int) := by omega
  have HK := hid k1
  by_cases c1 : f % 10 = 0
  · have HE := hid (show rateCells u = Lib.byteCells (Lib.decDigits (u / 100)) ++ [.int .u8 46, .int .u8 ((48 + f / 10 : Nat) : Int)] by simp [rateCells, fracCells, ← hf, c1, show f ≠ 0 by omega])
    have j1 : ((f : Int) == 0) = false := by simp; omega
    have j2 : ((f : Int) % 10 == 0) = true := by simp; omega
    clear c0 hf k1 c1
    go_enter Tryd.func7, Tryd.ntmps7
    go_wp2_with (at_builtin; refine wpList_full _ rfl _ _ rfl sv n xs rfl (Hid.out HF) ⟨w.heap.size, 0, none⟩ 1 1 [.int .u8 45] rfl (by omega) rfl (one_cell _ _) (by intro u hu; simp at hu; subst hu; rfl) (by omega) ?_; intro v1 w0 hown0 hgrow0)
    have hb0 : Below w.heap.size w w0 := ((Below.refl w.heap.size w).alloc (Nat.le_refl _) _).grown hgrow0 (by simp) (by intro k hk; cases hk)
    rw [show ((u : Int) / 100) = ((u / 100 : Nat) : Int) from by omega]
    refine (Hid.out HA w0 v1 (own_base hown0 (by simp)) hb0).mono ?_
    clear hown0 hgrow0
    rintro e w1 ⟨v', rfl, hown, hb⟩
    have k2 := HK.out
    go_wp2_with fail
    have hsz := hb.size
    refine (hund _ _ f f1 _ _ _ hown hsz (by omega)).mono ?_
    rintro e w2 ⟨v2, rfl, hown2, hb2⟩
    obtain ⟨g, cap, rfl, hc1, hc2⟩ := own_shape hown2 (by omega)
    have HO2 := hid hown2
    clear hown2
    unfold maxLen at hc2
    go_wp2
    go_ret
    refine ⟨_, rfl, ?_, hb.trans hb2⟩
    rw [HE.out, ← List.append_assoc]
    have ho := own_trim HO2.out (take_two (own_len hown))
    rw [← own_len ho]
    exact ho
  · have HE := hid (show rateCells u = Lib.byteCells (Lib.decDigits (u / 100)) ++ [.int .u8 46, .int .u8 ((48 + f / 10 : Nat) : Int), .int .u8 ((48 + f % 10 : Nat) : Int)] by simp [rateCells, fracCells, ← hf, c1, show f ≠ 0 by omega])
    have j1 : ((f : Int) == 0) = false := by simp; omega
    have j2 : ((f : Int) % 10 == 0) = false := by simp; omega
    clear c0 hf k1 c1
    go_enter Tryd.func7, Tryd.ntmps7
    go_wp2_with (at_builtin; refine wpList_full _ rfl _ _ rfl sv n xs rfl (Hid.out HF) ⟨w.heap.size, 0, none⟩ 1 1 [.int .u8 45] rfl (by omega) rfl (one_cell _ _) (by intro u hu; simp at hu; subst hu; rfl) (by omega) ?_; intro v1 w0 hown0 hgrow0)
    have hb0 : Below w.heap.size w w0 := ((Below.refl w.heap.size w).alloc (Nat.le_refl _) _).grown hgrow0 (by simp) (by intro k hk; cases hk)
    rw [show ((u : Int) / 100) = ((u / 100 : Nat) : Int) from by omega]
    refine (Hid.out HA w0 v1 (own_base hown0 (by simp)) hb0).mono ?_
    clear hown0 hgrow0
    rintro e w1 ⟨v', rfl, hown, hb⟩
    have k2 := HK.out
    go_wp2_with fail
    have hsz := hb.size
    refine (hund _ _ f f1 _ _ _ hown hsz (by omega)).mono ?_
    rintro e w2 ⟨v2, rfl, hown2, hb2⟩
    go_wp2
    go_ret
    refine ⟨_, rfl, ?_, hb.trans hb2⟩
    rw [HE.out, ← List.append_assoc, ← own_len hown2]
    exact hown2

end Go.Proofs.Qxb6602662aDoor.Wk
