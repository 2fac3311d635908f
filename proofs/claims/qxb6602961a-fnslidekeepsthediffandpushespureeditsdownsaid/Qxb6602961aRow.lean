import Derived.Test.Qxb6602961aLaw
import Derived.ShutString
import Derived.ChangeOld
import Derived.Deep.Slices
import Derived.Lib.SmallJoins
namespace Go.Proofs.Qxb6602961a.fnSlideKeepsTheDiffAndPushesPureEditsDown
open Go.ChangeShapes Go.WideShapes Go.ChangeAt Go.RowKit Go.Proofs.Qxb6602961a.Wk
set_option linter.unusedVariables false

theorem own : ownKnob Try.prog.godebug = none := by kernel_rfl
theorem laidOut : laidOutB Try.prog = true := by kernel_rfl
theorem cells3 : Try.prog.cellsOf 3 = 1 := by kernel_rfl
theorem cells45 : Try.prog.cellsOf 45 = 4 := by kernel_rfl

/-- A slice of ints that came in, as the walks meet it. -/
theorem slice_in {H : Type} {enc : TypeId × Value → H} {W : World} {a : Option Addr} {len cap : Nat} {d : DataW H} {p : List MemPlace}
    (h : DataW.Trod enc Try.prog W 0 (fun _ => true) true 22 (.slice a len cap) d p) : ∃ zs, Rd W a len zs ∧ len ≤ maxLen ∧ (a = none → cap = 0) := by
  obtain ⟨fuel, hf⟩ := h
  rcases open_ints Try.underlying22 Try.underlying3 cells3 hf with ⟨hcs, _⟩ | ⟨x, l, c, zs, hcs, _, hl, hm, hz, _, hcell, hwz⟩
  · simp [Value.cells] at hcs
    obtain ⟨rfl, rfl, rfl⟩ := hcs
    exact ⟨[], ⟨rfl, fun _ => rfl, fun h => by omega⟩, by omega, fun _ => rfl⟩
  · simp [Value.cells] at hcs
    obtain ⟨rfl, rfl, rfl⟩ := hcs
    have hz' : zs.length = cap := by simpa using hz
    refine ⟨zs.take len, ⟨by simp; omega, (fun h => by cases h), fun h0 => ?_⟩, by omega, (fun h => by cases h)⟩
    obtain ⟨b, off, spot⟩ := x
    have hspot : spot = none := by simpa [Addr.add] using World.cell?_spot (hcell 0 (by omega))
    subst hspot
    have h00 := hcell 0 (by omega)
    refine ⟨b, off, rfl, World.block_lt_of_cell? W _ h00, fun j hj => ?_⟩
    have := hcell j (by omega)
    rw [Addr.add_lit] at this
    rw [this]
    simp [List.getD, hj]

/-- The cells of one edit. -/
theorem edit_in {H : Type} {enc : TypeId × Value → H} {W : World} {a : Addr} {m : Nat} {cs : List Value} {x : DataW H × List MemPlace}
    (h1 : W.cells? 0 a 4 = some cs) (h2 : DataW.trod enc Try.prog W 0 (fun _ => true) true m 45 cs = some x) :
    ∃ e : Ed, W.cell? (a.add 0) = some (.int .i64 e.o) ∧ W.cell? (a.add 1) = some (.int .i64 e.d) ∧ W.cell? (a.add 2) = some (.int .i64 e.n) ∧ W.cell? (a.add 3) = some (.int .i64 e.i) := by
  obtain ⟨_, hl, hc⟩ := World.cells?_some h1
  obtain ⟨y0, y1, y2, y3, n, _, _, f0, f1, f2, f3⟩ := Go.Joins.trod_struct4 Try.underlying45 h2
  match cs, hl with
  | [v0, v1, v2, v3], _ =>
    simp only [cells3] at f0 f1 f2 f3
    obtain ⟨z0, g0, _⟩ := DataW.trod_int Try.underlying3 f0
    obtain ⟨z1, g1, _⟩ := DataW.trod_int Try.underlying3 f1
    obtain ⟨z2, g2, _⟩ := DataW.trod_int Try.underlying3 f2
    obtain ⟨z3, g3, _⟩ := DataW.trod_int Try.underlying3 f3
    simp at g0 g1 g2 g3
    subst g0 g1 g2 g3
    exact ⟨⟨z0, z1, z2, z3⟩, hc 0 (by omega), hc 1 (by omega), hc 2 (by omega), hc 3 (by omega)⟩

/-- A slice of edits that came in. -/
theorem edits_in {H : Type} {enc : TypeId × Value → H} {W : World} {a : Option Addr} {len cap : Nat} {d : DataW H} {p : List MemPlace}
    (h : DataW.Trod enc Try.prog W 0 (fun _ => true) true 31 (.slice a len cap) d p) : ∃ es, RdE W a len es ∧ len ≤ maxLen := by
  obtain ⟨fuel, hf⟩ := h
  rcases Go.Deep.open_slice Try.underlying31 hf with ⟨hcs, _⟩ | ⟨x, l, c, m, n, D, Pl, hcs, _, hl, hm, hmm, _, hel⟩
  · simp [Value.cells] at hcs
    obtain ⟨rfl, rfl, rfl⟩ := hcs
    exact ⟨[], ⟨rfl, fun _ => rfl, fun h => by omega⟩, by omega⟩
  · simp [Value.cells] at hcs
    obtain ⟨rfl, rfl, rfl⟩ := hcs
    simp only [if_true] at hmm
    subst hmm
    rw [cells45] at hel
    obtain ⟨f, hf'⟩ := Go.Deep.choose_lt (fun i (hi : i < len) => by
      obtain ⟨cs', e1, e2⟩ := hel i (by omega)
      exact edit_in e1 e2)
    refine ⟨(List.range len).map f, ⟨by simp, (fun h => by cases h), fun h0 => ?_⟩, by omega⟩
    obtain ⟨b, off, spot⟩ := x
    have hspot : spot = none := by
      have := World.cell?_spot (hf' 0 h0).1
      simpa [Addr.add] using this
    subst hspot
    have h00 := (hf' 0 h0).1
    refine ⟨b, off, rfl, World.block_lt_of_cell? W _ h00, fun j hj => ?_⟩
    have := hf' j hj
    simp only [Addr.add_lit] at this
    have e : ed ((List.range len).map f) j = f j := by simp [ed, List.getD, hj]
    rw [e]
    exact this

set_option maxHeartbeats 1600000 in
set_option maxRecDepth 100000 in
theorem lifted (os : Os) (started : os.Started) (H : Type) (enc : TypeId × Value → H) :
    ReturnsInHanded {} Try.checked os 5 .any (Rows.fnSlideKeepsTheDiffAndPushesPureEditsDownSpec.pre6 enc Try.prog Try.f5 Rows.fnSlideKeepsTheDiffAndPushesPureEditsDownRow.domain false) (Rows.fnSlideKeepsTheDiffAndPushesPureEditsDownSpec.post enc Try.prog Try.f5 false true false false) := by
  refine returnsInHanded_of_change (C := Try.checked) own started (by kernel_rfl) Try.func5
    (ChangeSpec.witness6 (enc := enc) (C := Try.checked) false ⟨#[], #[.slice none 0 0, .slice none 0 0, .slice none 0 0], []⟩ 8 (by kernel_rfl) (by kernel_rfl) (by kernel_rfl) (by kernel_rfl)) ?_
  intro W base args ds gs before hval0 hW hcnd _
  have hval : ∀ (j : Nat) t v, Try.f5.params[j]? = some t → args[j]? = some v → Value.okWide Try.prog W .any base t v := hval0
  have hW' := hW
  obtain ⟨p, q, hA0, hV, rfl, hfz, hnd⟩ := hW
  have hA : DataW.TrodAll enc Try.prog W 0 (fun _ => true) true Try.f5.params.toList args.toList ds p := hA0
  rw [Try.params5] at hA hval
  obtain ⟨v0, vs0, d0, ds0, p0, q0, hargs, rfl, rfl, h0, r0⟩ := trodAll_cons hA
  obtain ⟨v1, vs1, d1, ds1, p1, q1, rfl, rfl, rfl, h1, r1⟩ := trodAll_cons r0
  obtain ⟨v2, vs2, d2, ds2, p2, q2, rfl, rfl, rfl, h2, r2⟩ := trodAll_cons r1
  obtain ⟨rfl, rfl, rfl⟩ := trodAll_nil r2
  obtain rfl : args = #[v0, v1, v2] := by cases args; simp_all
  obtain ⟨rfl, rfl⟩ := trodVars_none hV
  obtain ⟨a0, len0, cap0, rfl⟩ := okWide_slice Try.underlying31 (hval 0 31 v0 rfl rfl)
  obtain ⟨a1, len1, cap1, rfl⟩ := okWide_slice Try.underlying22 (hval 1 22 v1 rfl rfl)
  obtain ⟨a2, len2, cap2, rfl⟩ := okWide_slice Try.underlying22 (hval 2 22 v2 rfl rfl)
  have k0 := h0
  have k1 := h1
  have k2 := h2
  have lt0 : ∀ x ∈ p0, x.block < W.heap.size := by obtain ⟨m, hm⟩ := k0; exact DataW.trod_lt m _ _ _ hm
  have lt1 : ∀ x ∈ p1, x.block < W.heap.size := by obtain ⟨m, hm⟩ := k1; exact DataW.trod_lt m _ _ _ hm
  have lt2 : ∀ x ∈ p2, x.block < W.heap.size := by obtain ⟨m, hm⟩ := k2; exact DataW.trod_lt m _ _ _ hm
  obtain ⟨es, hes, hm0⟩ := edits_in h0
  obtain ⟨za, hza, hm1, hc1⟩ := slice_in h1
  obtain ⟨zb, hzb, hm2, hc2⟩ := slice_in h2
  clear hA0 hval0
  have main : Calls Try.prog 5 #[.slice a0 len0 cap0, .slice a1 len1 cap1, .slice a2 len2 cap2] W fun e w' => e = .returned (.bool true) ∧ Below W.heap.size W w' := by
    by_cases hx : 1048576 < len0 + len1 + len2 ∨ 8192 < len0 ∨ 32768 < len1 ∨ 32768 < len2
    · exact Wk.early a0 a1 a2 len0 cap0 len1 cap1 len2 cap2 W hm0 hm1 hm2 hx
    · exact law_good a0 a1 a2 len0 cap0 len1 cap1 len2 cap2 es za zb W (by omega) (by omega) (by omega) (by omega) hes hza hc1 hzb hc2
  refine main.mono fun e W' ⟨he, bel⟩ => ?_
  subst he
  exact ⟨_, rfl, _, _, _, [], _, [], hW', trodAll_mk1 (shut_bool Try.underlying4 _),
    (trodAll_cons_mk (Below.trod laidOut (by kernel_rfl) (of_decide_eq_true (by kernel_rfl)) k0 bel lt0)
    (trodAll_cons_mk (Below.trod laidOut (by kernel_rfl) (of_decide_eq_true (by kernel_rfl)) k1 bel lt1)
    (trodAll_cons_mk (Below.trod laidOut (by kernel_rfl) (of_decide_eq_true (by kernel_rfl)) k2 bel lt2) trodAll_mk0))), rfl, bel.frame _, fun h => by cases h⟩

theorem over : Rows.fnSlideKeepsTheDiffAndPushesPureEditsDownRow.holds Try.pinned (OpenSpec.ofChange Rows.fnSlideKeepsTheDiffAndPushesPureEditsDownSpec) :=
  OpenClaim.holds_of_wide 5 Try.f5 rfl rfl rfl rfl rfl rfl rfl ⟨rfl, rfl, rfl, rfl, rfl⟩ rfl rfl rfl rfl rfl (by kernel_rfl) Try.func5 (by kernel_rfl)
    (of_decide_eq_true (by kernel_rfl)) (by unfold Func.isWrapper; first | (rw [if_pos (by decide +kernel)]; kernel_rfl) | (rw [if_neg (by decide +kernel)]; exact ⟨rfl, rfl⟩))
    (fun os started H enc _ => lifted os started H enc)

/-- THE STATEMENT. -/
theorem proved : Rows.FnSlideKeepsTheDiffAndPushesPureEditsDownSaid := over
#print axioms proved
end Go.Proofs.Qxb6602961a.fnSlideKeepsTheDiffAndPushesPureEditsDown
