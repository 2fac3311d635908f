import Derived.Test.Qxb6602662aDoorMain
import Derived.Test.Qxb6602662aDoorTie
import Derived.Test.Qxb6602662aDoorCards
import Derived.ChangeOld
import Derived.ShutString
import Derived.LaidMore
import Derived.Stop.Joined
import Derived.Stop.LaidErr
import Derived.SevenTiedAt
import Derived.Lib.LaidTab
namespace Go.Proofs.Qxb6602662aDoor.Wk
open Go.ChangeShapes Go.WideShapes Go.ChangeAt Go.RowKit
set_option linter.unusedVariables false

theorem own : ownKnob Tryd.prog.godebug = none := by kernel_rfl
theorem laidOut : laidOutB Tryd.prog = true := by kernel_rfl

/-! ### The texts as lists of numbers -/
def Byt (T : List Value) : Prop := ∃ ts : List Int, T = ts.map (Value.int .u8)
theorem Byt.app {a b : List Value} (ha : Byt a) (hb : Byt b) : Byt (a ++ b) := by
  obtain ⟨x, rfl⟩ := ha
  obtain ⟨y, rfl⟩ := hb
  exact ⟨x ++ y, by simp⟩
theorem byt_bytes (l : List UInt8) : Byt (Lib.byteCells l) := ⟨l.map fun b => (b.toNat : Int), by simp [Lib.byteCells]⟩
theorem byt_sign : Byt [.int .u8 45] := ⟨[45], rfl⟩
theorem byt_frac (f : Nat) : Byt (fracCells f) := by
  unfold fracCells
  split
  · exact ⟨[], rfl⟩
  · split
    · exact ⟨[_, _], rfl⟩
    · exact ⟨[_, _, _], rfl⟩
theorem frac_len (f : Nat) : (fracCells f).length ≤ 3 := by
  unfold fracCells
  split
  · simp
  · split <;> simp
theorem rate_len (u : Nat) (hu : u ≤ 9223372036854775807) : 0 < (rateCells u).length ∧ (rateCells u).length ≤ 23 := by
  have h1 := dec_len (u / 100) (by omega)
  have h2 := frac_len (u % 100)
  unfold rateCells
  rw [List.length_append, Lib.byteCells_length]
  omega

/-- The law at every rate, on slices within its bound. -/
theorem main_any (r : Int) (hr0 : -9223372036854775808 ≤ r) (hr1 : r ≤ 9223372036854775807) (ai : Option Addr) (n cap : Nat) (zs : List Int) (w : World) (hz : Rd 0 w ai n zs) (hn : n ≤ 65536)
    (htab : Lib.TabIs Tryd.prog w tabName .u64 Lib.pow10Tab) :
    Calls Tryd.prog 3 #[.int .i64 r, .slice ai n cap] w fun e w' => e = .returned (.bool true) ∧ Below w.heap.size w w' := by
  by_cases hm : r = -9223372036854775808
  · subst hm
    obtain ⟨ts, hts⟩ : Byt minCells := (byt_sign.app (byt_bytes _)).app ⟨[_, _, _], rfl⟩
    have hl : ts.length = 22 := by
      have h := congrArg List.length hts
      rw [minCells_eq] at h
      simpa using h.symm
    refine main_core _ ts (by omega) (by omega) (fun w1 sv n xs hF hn ht => ?_) (fun w1 => ?_) ai n cap zs w hz hn htab
    · rw [← hts]; exact append_min n sv xs w1 hF hn ht
    · rw [← hts]; exact model_min w1
  by_cases hneg : r < 0
  · obtain ⟨u, rfl⟩ : ∃ u : Nat, r = -(u : Int) := ⟨r.natAbs, by omega⟩
    obtain ⟨ts, hts⟩ : Byt ([Value.int .u8 45] ++ rateCells u) := byt_sign.app ((byt_bytes _).app (byt_frac _))
    have hl := rate_len u (by omega)
    have hl2 : ts.length = (rateCells u).length + 1 := by
      have h := congrArg List.length hts
      simpa using h.symm
    refine main_core _ ts (by omega) (by omega) (fun w1 sv n xs hF hn ht => ?_) (fun w1 => ?_) ai n cap zs w hz hn htab
    · rw [← hts, ← List.append_assoc]; exact append_neg n u (by omega) (by omega) sv xs w1 hF hn ht
    · rw [← hts]; exact model_neg u (by omega) (by omega) w1
  · obtain ⟨u, rfl⟩ : ∃ u : Nat, r = (u : Int) := ⟨r.toNat, by omega⟩
    obtain ⟨ts, hts⟩ : Byt (rateCells u) := (byt_bytes _).app (byt_frac _)
    have hl := rate_len u (by omega)
    have hl2 : ts.length = (rateCells u).length := by
      have h := congrArg List.length hts
      simpa using h.symm
    refine main_core _ ts (by omega) (by omega) (fun w1 sv n xs hF hn ht => ?_) (fun w1 => ?_) ai n cap zs w hz hn htab
    · rw [← hts]; exact append_pos n u (by omega) sv xs w1 hF hn ht
    · rw [← hts]; exact model_pos u (by omega) w1

/-- Beyond the law's own bound. -/
theorem main_long (r : Int) (a : Option Addr) (n cap : Nat) (w : World) (hm : n ≤ maxLen) (h : 65536 < n) :
    Calls Tryd.prog 3 #[.int .i64 r, .slice a n cap] w fun e w' => e = .returned (.bool true) ∧ Below w.heap.size w w' := by
  unfold maxLen at hm
  have l1 : (65536 : Int) < (n : Int) := by omega
  by_cases h2 : 1048576 < n
  · have l2 : (1048576 : Int) < (n : Int) := by omega
    go_enter Tryd.func3, Tryd.ntmps3
    go_wp2_with (go_at_call 5; go_in)
    go_ret
    exact ⟨rfl, Below.refl _ _⟩
  · have l2 : (n : Int) ≤ (1048576 : Int) := by omega
    go_enter Tryd.func3, Tryd.ntmps3
    go_wp2_with (go_at_call 5; go_in)
    go_ret
    exact ⟨rfl, Below.refl _ _⟩

/-! ### The listed tables -/
def laid3 : List (String × DataW Unit) := Rows.fnRateAppendMatchesDecimalModelRow.laid

theorem gPow : Tryd.prog.globalNamed tabName = some 0 := by kernel_rfl
theorem tPow : (Tryd.prog.globals[0]?).map (·.type) = some 42 := by kernel_rfl
theorem c32 : Tryd.prog.cellsOf 32 = 1 := by kernel_rfl
theorem c42 : Tryd.prog.cellsOf 42 = 20 := by kernel_rfl

theorem door_met (os : Os) (args : Array Value) : laidMetH Tryd.prog laid3 ((World.doorLaid Tryd.prog 24 os).forCall (fun _ _ => 0) ⟨#[], args, []⟩).memory :=
  laidMetH_of_parts3 (fuel := 8) (laidMet_of_run' 8 (by kernel_rfl) (by kernel_rfl)) (by kernel_rfl) (by kernel_rfl)

/-- What the condition gives the walks. -/
theorem of_laid {W : World} (h : laidMetH Tryd.prog laid3 W) : Lib.TabIs Tryd.prog W tabName .u64 Lib.pow10Tab := by
  rw [MakeChecks.laidMetH_plain _ _ _ (by kernel_rfl)] at h
  exact Lib.tabIs_of_head (rest := []) gPow tPow Tryd.underlying42 Tryd.underlying32 c32 c42 h.tail.tail

set_option maxRecDepth 100000 in
theorem lifted3 (os : Os) (started : os.Started) (H : Type) (enc : TypeId × Value → H) :
    ReturnsInHanded {} Tryd.checked os 3 .any (fun w args => (Rows.fnRateAppendMatchesDecimalModelSpec.pre enc Tryd.prog Tryd.f3 [] false w args ∧ laidMetH Tryd.prog laid3 w) ∧ sizedMet enc Tryd.prog Tryd.f3 (OpenSpec.ofChange Rows.fnRateAppendMatchesDecimalModelSpec) false w args)
      (Rows.fnRateAppendMatchesDecimalModelSpec.post enc Tryd.prog Tryd.f3 false true false false) := by
  refine returnsInHanded_of_change_and (C := Tryd.checked) (X := fun w _ => laidMetH Tryd.prog laid3 w) (fun _ _ _ hh h => h.of_heap hh) own started (by kernel_rfl) Tryd.func3
    (ChangeSpec.witness_shaped (enc := enc) (C := Tryd.checked) (os := os) (X := fun w _ => laidMetH Tryd.prog laid3 w) false (World.doorLaid Tryd.prog 24 os) #[.int .i64 0, .slice none 0 0] 8 rfl (World.shaped_of_RefB (by kernel_rfl) (by kernel_rfl)) (by kernel_rfl) (by kernel_rfl) (by kernel_rfl) (door_met os _)) ?_
  intro W base args ds gs before hval0 hW _ _ hL _
  have hval : ∀ (j : Nat) t v, Tryd.f3.params[j]? = some t → args[j]? = some v → Value.okWide Tryd.prog W .any base t v := hval0
  have hW' := hW
  obtain ⟨p, q, hA0, hV, rfl, hfz, hnd⟩ := hW
  have hA : DataW.TrodAll enc Tryd.prog W 0 (fun _ => true) true Tryd.f3.params.toList args.toList ds p := hA0
  rw [Tryd.params3] at hA hval
  obtain ⟨v0, vs0, d0, ds0, p0, q0, hargs, rfl, rfl, h0, r0⟩ := trodAll_cons hA
  obtain ⟨v1, vs1, d1, ds1, p1, q1, rfl, rfl, rfl, h1, r1⟩ := trodAll_cons r0
  obtain ⟨rfl, rfl, rfl⟩ := trodAll_nil r1
  obtain rfl : args = #[v0, v1] := by cases args; simp_all
  obtain ⟨rfl, rfl⟩ := trodVars_none hV
  obtain ⟨r, rfl, rfl, rfl, wr⟩ := open_int Tryd.underlying2 (hval 0 2 v0 rfl rfl) h0
  obtain ⟨a1, len1, cap1, rfl⟩ := okWide_slice Tryd.underlying22 (hval 1 22 v1 rfl rfl)
  have k1 := h1
  have lt1 : ∀ x ∈ p1, x.block < W.heap.size := by obtain ⟨m, hm⟩ := k1; exact DataW.trod_lt m _ _ _ hm
  obtain ⟨zs, hz, hlm⟩ : ∃ zs, Rd 0 W a1 len1 zs ∧ len1 ≤ maxLen := by
    obtain ⟨fuel, hf⟩ := h1
    rcases open_ints Tryd.underlying22 Tryd.underlying5 (by kernel_rfl) hf with ⟨hcs, _⟩ | ⟨x, l, c, zs, hcs, _, hl, hm, hz, _, hcell, hwz⟩
    · simp [Value.cells] at hcs
      obtain ⟨rfl, rfl, rfl⟩ := hcs
      exact ⟨[], ⟨rfl, fun _ => rfl, fun h => by omega⟩, by omega⟩
    · simp [Value.cells] at hcs
      obtain ⟨rfl, rfl, rfl⟩ := hcs
      have hz' : zs.length = cap1 := by simpa using hz
      refine ⟨zs.take len1, ⟨by simp; omega, (fun h => by cases h), fun h0 => ?_⟩, by omega⟩
      obtain ⟨b, off, spot⟩ := x
      have hspot : spot = none := by simpa [Addr.add] using World.cell?_spot (hcell 0 (by omega))
      subst hspot
      have h00 := hcell 0 (by omega)
      refine ⟨b, off, rfl, Nat.zero_le _, World.block_lt_of_cell? W _ h00, fun j hj => ?_⟩
      have := hcell j (by omega)
      rw [Addr.add_lit] at this
      rw [this]
      simp [List.getD, hj]
  clear hA0 hval0
  have bd := bounds_i64 wr
  have fin : Calls Tryd.prog 3 #[.int .i64 r, .slice a1 len1 cap1] W fun e w' => e = .returned (.bool true) ∧ Below W.heap.size W w' := by
    by_cases hn : 65536 < len1
    · exact main_long r a1 len1 cap1 W hlm hn
    · exact main_any r bd.1 bd.2 a1 len1 cap1 zs W hz (by omega) (of_laid hL)
  refine fin.mono fun e W' ⟨he, bel⟩ => ?_
  subst he
  exact ⟨_, rfl, _, _, _, [], _, [], hW', trodAll_mk1 (shut_bool Tryd.underlying4 _), (trodAll_cons_mk (shut_int Tryd.underlying2 wr) (trodAll_cons_mk (Below.trod laidOut (by kernel_rfl) (of_decide_eq_true (by kernel_rfl)) k1 bel lt1) trodAll_mk0)), rfl, bel.frame _, fun h => by cases h⟩

theorem row3 : Rows.FnRateAppendMatchesDecimalModelSaid :=
  OpenClaim.holds_of_wide 3 Tryd.f3 rfl rfl rfl rfl rfl rfl rfl ⟨rfl, rfl, rfl, rfl, rfl⟩ rfl rfl rfl rfl rfl (by kernel_rfl) Tryd.func3 (by kernel_rfl)
    (of_decide_eq_true (by kernel_rfl)) (by unfold Func.isWrapper; first | (rw [if_pos (by decide +kernel)]; kernel_rfl) | (rw [if_neg (by decide +kernel)]; exact ⟨rfl, rfl⟩))
    (fun os started H enc _ => lifted3 os started H enc)

end Go.Proofs.Qxb6602662aDoor.Wk
namespace Go.Proofs.Qxb6602662aDoor

/-- THE CARD. -/
theorem matches_card : Rows.FnRateAppendMatchesDecimalModelCardSaid :=
  Claim7.holds_tied_plain_at .later [] [.data, .data, .data] true Rows.fnRateAppendMatchesDecimalModelCard.stood.harness false
    Wk.row3 (fun _ h => by cases h) (by kernel_rfl) (fun _ h => by cases h) fnRateAppendMatchesDecimalModel_row_tie rfl ⟨rfl, rfl⟩ (by kernel_rfl) rfl
    (fun f fn hf hfn => by
      obtain rfl : f = 3 := Option.some.inj ((show Tryd.prog.funcNamed Rows.fnRateAppendMatchesDecimalModelRow.func = some 3 by kernel_rfl).symm.trans hf) |>.symm
      obtain rfl : fn = Tryd.f3 := (Option.some.inj (Tryd.func3.symm.trans hfn)).symm
      exact ⟨by kernel_rfl, fun j t ht => by
        rw [Tryd.params3] at ht
        have hm : t ∈ [2, 22] := by simpa using Array.mem_of_getElem? ht
        have hall : ([2, 22].all fun u => !Tryd.prog.wantsStandIn u) = true := by kernel_rfl
        exact (show Tryd.prog.wantsStandIn t = false by simpa using List.all_eq_true.1 hall t hm)⟩)
    (by kernel_rfl)
#print axioms matches_card
end Go.Proofs.Qxb6602662aDoor
