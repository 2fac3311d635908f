import Derived.Test.Qxb6602662aDoorRate2
namespace Go.Proofs.Qxb6602662aDoor.Wk
open Go.ChangeShapes Go.WideShapes Go.ChangeAt Go.RowKit
set_option linter.unusedVariables false

/-- What the least int64 is written as. -/
def minCells : List Value := [.int .u8 45] ++ Lib.byteCells (Lib.itoa (-92233720368547758)) ++ [.int .u8 46, .int .u8 200, .int .u8 56]

theorem min_rest (n : Nat) (xs : List Value) (w w1 : World) (v1 : Value) (hown : w1.ownsRow w.heap.size 5 1 v1 (n + 1) (xs ++ [.int .u8 45])) (hb : Below w.heap.size w w1) (hlim : n ≤ 1048576)
    (htab : Lib.TabIs Tryd.prog w tabName .u64 Lib.pow10Tab) :
    Calls Tryd.prog 11 #[v1, .int .i64 (-92233720368547758), .int .i64 10] w1 fun e w' => ∃ v', e = .returned v' ∧ w'.ownsRow w.heap.size 5 1 v' (n + 1 + (Lib.itoa (-92233720368547758)).length) (xs ++ [.int .u8 45] ++ Lib.byteCells (Lib.itoa (-92233720368547758))) ∧ Below w.heap.size w w' := by
  have h := Tryd.strconv_AppendInt_10 w.heap.size (n + 1) (-92233720368547758) (by omega) (by omega) v1 _ w1 hown hb.size (by omega) ((Lib.tabBelow_of_tabIs htab).on hb)
  refine h.mono ?_
  rintro e w2 ⟨v', rfl, h1, h2, _⟩
  exact ⟨v', rfl, h1, hb.trans h2⟩

theorem min_len : (Lib.itoa (-92233720368547758)).length = 18 := by decide +kernel

theorem mw1 : wrap64 9223372036854775808 = -9223372036854775808 := by unfold wrap64; decide
theorem mw2 : wrap64 (Int.tdiv (-9223372036854775808) 100) = -92233720368547758 := by unfold wrap64; decide

theorem mw3 : IntKind.u64.wrap (-8) = 18446744073709551608 := by rw [IntKind.wrap_u64]; decide

theorem append_min (n : Nat) (sv : Value) (xs : List Value) (w : World) (hF : Full w sv n xs) (hlim : n ≤ 1048576)
    (htab : Lib.TabIs Tryd.prog w tabName .u64 Lib.pow10Tab) :
    Calls Tryd.prog 7 #[.int .i64 (-9223372036854775808), sv] w fun e w' => ∃ v', e = .returned v' ∧ w'.ownsRow w.heap.size 5 1 v' (xs ++ minCells).length (xs ++ minCells) ∧ Below w.heap.size w w' := by
  have HA := hid fun (w1 : World) (v1 : Value) (hown : w1.ownsRow w.heap.size 5 1 v1 (n + 1) (xs ++ [.int .u8 45])) (hb : Below w.heap.size w w1) => min_rest n xs w w1 v1 hown hb hlim htab
  have HF := hid (hF.later ((Below.refl w.heap.size w).alloc (Nat.le_refl _) (.cells #[Value.int .u8 45] 5)))
  clear hF htab
  go_enter Tryd.func7, Tryd.ntmps7
  go_wp2_with (at_builtin; refine wpList_full _ rfl _ _ rfl sv n xs rfl (Hid.out HF) ⟨w.heap.size, 0, none⟩ 1 1 [.int .u8 45] rfl (by omega) rfl (one_cell _ _) (by intro u hu; simp at hu; subst hu; rfl) (by omega) ?_; intro v1 w0 hown0 hgrow0)
  have hb0 : Below w.heap.size w w0 := ((Below.refl w.heap.size w).alloc (Nat.le_refl _) _).grown hgrow0 (by simp) (by intro k hk; cases hk)
  rw [mw1, mw2]
  refine (Hid.out HA w0 v1 (own_base hown0 (by simp)) hb0).mono ?_
  clear hown0 hgrow0
  rintro e w1 ⟨v', rfl, hown, hb⟩
  rw [min_len] at hown
  go_wp2_with fail
  have hsz := hb.size
  rw [mw3]
  refine (hund_min _ _ _ _ _ hown hsz (by omega)).mono ?_
  rintro e w2 ⟨v2, rfl, hown2, hb2⟩
  go_wp2
  go_ret
  refine ⟨_, rfl, ?_, hb.trans hb2⟩
  have e1 : xs ++ minCells = xs ++ [.int .u8 45] ++ Lib.byteCells (Lib.itoa (-92233720368547758)) ++ [.int .u8 46, .int .u8 200, .int .u8 56] := by simp [minCells]
  rw [e1, ← own_len hown2]
  exact hown2

end Go.Proofs.Qxb6602662aDoor.Wk
