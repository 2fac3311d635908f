import Derived.Test.Qxb6602662aDoorModel2
namespace Go.Proofs.Qxb6602662aDoor.Wk
open Go.ChangeShapes Go.WideShapes Go.ChangeAt Go.RowKit
set_option linter.unusedVariables false

/-- A slice of bytes as the walk meets it: its n numbers zs lie behind its address, from block B on. -/
def Rd (B : Nat) (w : World) (ao : Option Addr) (n : Nat) (zs : List Int) : Prop :=
  zs.length = n ∧ (ao = none → n = 0) ∧ (0 < n → ∃ b off, ao = some ⟨b, off, none⟩ ∧ B ≤ b ∧ b < w.heap.size ∧ ∀ j, j < n → w.cell? ⟨b, off + j, none⟩ = some (.int .u8 (zs.getD j 0)))

theorem Rd.later {B : Nat} {w w' : World} {ao : Option Addr} {n : Nat} {zs : List Int} (h : Rd B w ao n zs) (hb : Below w.heap.size w w') : Rd B w' ao n zs := by
  obtain ⟨h1, h2, h3⟩ := h
  refine ⟨h1, h2, fun hn => ?_⟩
  obtain ⟨b, off, e, hB, hlt, hc⟩ := h3 hn
  exact ⟨b, off, e, hB, Nat.lt_of_lt_of_le hlt hb.size, fun j hj => (hb.cell (p := ⟨b, off + j, none⟩) hlt).trans (hc j hj)⟩

theorem Rd.full {B : Nat} {w : World} {ao : Option Addr} {n : Nat} {zs : List Int} (h : Rd B w ao n zs) : Full w (.slice ao n n) n (zs.map (Value.int .u8)) := by
  obtain ⟨h1, h2, h3⟩ := h
  refine ⟨by simpa using h1, ?_⟩
  cases ao with
  | none => obtain rfl := h2 rfl; exact .inl ⟨rfl, rfl⟩
  | some a =>
    refine .inr ⟨a, rfl, fun j u hu => ?_⟩
    have hj : j < n := by have := (List.getElem?_eq_some_iff.1 hu).1; simp at this; omega
    obtain ⟨b, off, e, hB, hlt, hc⟩ := h3 (by omega)
    cases e
    rw [Addr.add_lit, hc j hj, ← hu]
    simp [List.getD, show j < zs.length by omega]

theorem copy_run (ai : Option Addr) (n cap : Nat) (zs : List Int) (w w1 : World) (hz : Rd 0 w ai n zs) (hmax : n ≤ maxLen) (xs : List Value)
    (hown : w1.ownsRow w.heap.size 5 1 (.slice (some ⟨w.heap.size, 0, none⟩) n n) n xs) (hgrow : w.grownBy w1 none) :
    ∃ w2, (Builtin.copy_ #[22, 22] 3 #[.slice (some ⟨w.heap.size, 0, none⟩) n n, .slice ai n cap]).run Tryd.prog w1 = .ok (goInt n) w2 ∧
      Rd w.heap.size w2 (some ⟨w.heap.size, 0, none⟩) n zs ∧ Below w.heap.size w w2 := by
  have hb1 : Below w.heap.size w w1 := (Below.refl _ _).grown hgrow (Nat.le_refl _) (by intro k hk; cases hk)
  by_cases hn : n = 0
  · subst hn
    refine ⟨w1, run_copy_none (P := Tryd.prog) w1 22 22 3 5 (some ⟨w.heap.size, 0, none⟩) ai 0 0 0 cap Tryd.underlying22 isz5 rfl, ⟨hz.1, (fun h => by cases h), (fun h => by omega)⟩, hb1⟩
  obtain ⟨b, off, rfl, _, hlt, hc⟩ := hz.2.2 (by omega)
  have hzl := hz.1
  rcases hown.2 with ⟨h', _⟩ | ⟨g', cap', cur, h', _, hg, _, _, hcs, htake⟩
  · simp at h'
  simp only [Value.slice.injEq, Option.some.injEq, Addr.mk.injEq, and_true, true_and] at h'
  obtain ⟨rfl, rfl⟩ := h'
  have hlen : (zs.map (Value.int .u8)).length = n := by simpa using hzl
  have hsrc : ∀ j v, (zs.map (Value.int .u8))[j]? = some v → w1.cell? ((⟨b, off, none⟩ : Addr).add j) = some v := by
    intro j v hv
    have hj : j < n := by
      have := (List.getElem?_eq_some_iff.1 hv).1
      omega
    rw [Addr.add_lit, hb1.cell (by exact hlt), hc j hj, ← hv]
    simp [List.getD, show j < zs.length by omega]
  have hr := run_copy_row (P := Tryd.prog) w1 22 22 3 5 w.heap.size 0 n n ⟨b, off, none⟩ n cap cur 5 (zs.map (Value.int .u8)) Tryd.underlying22 isz5 hg (by rw [hlen]; simp) hsrc (by rw [hlen, hcs]; omega) (ints_oneCell _ _)
  rw [hlen] at hr
  have hcl : cur.toList.length = n := by simpa using hcs
  refine ⟨_, hr, ⟨hzl, (fun h => by cases h), fun _ => ⟨w.heap.size, 0, rfl, Nat.le_refl _, ?_, fun j hj => ?_⟩⟩, below_setRow hb1 (Nat.le_refl _) _⟩
  · have := (Array.getElem?_eq_some_iff.1 (setRow_heap w1 _ _ (List.take 0 cur.toList ++ List.map (Value.int IntKind.u8) zs ++ List.drop (0 + n) cur.toList).toArray _ _ hg)).1
    exact this
  · rw [cell_of_row _ _ _ _ _ _ (setRow_heap w1 _ _ _ _ _ hg)]
    simp [List.getD, List.getElem?_append, show j < zs.length by omega]

theorem clone_any (ai : Option Addr) (n cap : Nat) (zs : List Int) (w : World) (hz : Rd 0 w ai n zs) (hn : n ≤ 1048576) :
    Calls Tryd.prog 6 #[.slice ai n cap] w fun e w' => ∃ ao, e = .returned (.slice ao n n) ∧ Rd w.heap.size w' ao n zs ∧ Below w.heap.size w w' := by
  have q22 : ∀ (w : World) (a : Option Addr) (n c n' c' : Nat), (binOp .eql 22 (.slice a n c) (.slice none n' c')).run Tryd.prog w = .ok (.bool a.isNone) w := fun w a n c n' c' => Lib.run_eql_slice_nil w _ _ a n c n' c' Tryd.underlying22
  obtain ⟨i0, hi, hz0, hz1, hz2⟩ := info_parts info5
  have HZ := hid hz
  have HC := hid fun w1 xs => copy_run ai n cap zs w w1 hz (by unfold maxLen; omega) xs
  clear hz
  cases ai with
  | none =>
    obtain rfl := HZ.out.2.1 rfl
    go_enter Tryd.func6, Tryd.ntmps6
    go_wp2
    go_ret
    exact ⟨none, rfl, ⟨HZ.out.1, fun _ => rfl, fun h => by omega⟩, Below.refl _ _⟩
  | some a =>
    go_enter Tryd.func6, Tryd.ntmps6
    go_wp2_with (at_make; refine wpList_make_full _ rfl _ _ 22 rfl w.heap.size 5 i0 (.int .u8 0) 1 Tryd.underlying22 hi hz0 hz1 .i64 .i64 _ _ n rfl rfl rfl rfl (by rw [hz2]; omega) (by unfold maxLen; omega) (Nat.le_refl _) ?_; intro w1 hown hgrow; obtain ⟨w2, hcp, hr2, hb2⟩ := HC.out w1 _ hown hgrow; have HR2 := hid hr2; have HB2 := hid hb2; clear hown hgrow hr2 hb2)
    go_ret
    exact ⟨_, rfl, HR2.out, HB2.out⟩

theorem itoa_min : Lib.itoa (-92233720368547758) = [45, 57, 50, 50, 51, 51, 55, 50, 48, 51, 54, 56, 53, 52, 55, 55, 53, 56] := by decide +kernel

theorem minCells_eq : minCells = [.int .u8 45, .int .u8 45, .int .u8 57, .int .u8 50, .int .u8 50, .int .u8 51, .int .u8 51, .int .u8 55, .int .u8 50, .int .u8 48, .int .u8 51, .int .u8 54, .int .u8 56, .int .u8 53, .int .u8 52, .int .u8 55, .int .u8 55, .int .u8 53, .int .u8 56, .int .u8 46, .int .u8 200, .int .u8 56] := by
  unfold minCells
  rw [itoa_min]
  rfl

theorem model_min (w : World) :
    Calls Tryd.prog 8 #[.int .i64 (-9223372036854775808)] w fun e w' => ∃ v', e = .returned v' ∧ w'.ownsRow w.heap.size 5 1 v' minCells.length minCells ∧ Below w.heap.size w w' := by
  rw [minCells_eq]
  go_enter Tryd.func8, Tryd.ntmps8
  go_wp2
  go_ret
  exact ⟨_, rfl, World.ownsRow_lit w _ 22 (Nat.le_refl _) (by decide) (by rfl), (Below.refl _ _).alloc (Nat.le_refl _) _⟩

end Go.Proofs.Qxb6602662aDoor.Wk
