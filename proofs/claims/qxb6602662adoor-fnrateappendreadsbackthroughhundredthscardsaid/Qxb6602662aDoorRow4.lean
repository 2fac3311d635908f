import Derived.Test.Qxb6602662aDoorBack2
import Derived.Test.Qxb6602662aDoorTie
import Derived.Test.Qxb6602662aDoorCards
import Derived.ChangeOld
import Derived.ShutString
import Derived.LaidMore
import Derived.Stop.Joined
import Derived.Stop.LaidErr
import Derived.SevenTiedAt
import Derived.Lib.LaidTab
namespace Go.Proofs.Qxb6602662aDoor.Wk4
open Go.ChangeShapes Go.WideShapes Go.ChangeAt Go.RowKit Go.Proofs.Qxb6602662aDoor.Wk
set_option linter.unusedVariables false

theorem own : ownKnob Tryd.prog.godebug = none := by kernel_rfl
theorem laidOut : laidOutB Tryd.prog = true := by kernel_rfl

/-- The least int64 is answered at once. -/
theorem back_min (w : World) : Calls Tryd.prog 4 #[.int .i64 (-9223372036854775808)] w fun e w' => e = .returned (.bool true) ∧ Below w.heap.size w w' := by
  go_enter Tryd.func4, Tryd.ntmps4
  go_wp2
  go_ret
  exact ⟨rfl, Below.refl _ _⟩

/-- The law at every rate. -/
theorem back_any (r : Int) (hr0 : -9223372036854775808 ≤ r) (hr1 : r ≤ 9223372036854775807) (w : World)
    (htab : Lib.TabIs Tryd.prog w tabName .u64 Lib.pow10Tab) :
    Calls Tryd.prog 4 #[.int .i64 r] w fun e w' => e = .returned (.bool true) ∧ Below w.heap.size w w' := by
  by_cases hm : r = -9223372036854775808
  · subst hm
    exact back_min w
  by_cases hneg : r < 0
  · obtain ⟨u, rfl⟩ : ∃ u : Nat, r = -(u : Int) := ⟨r.natAbs, by omega⟩
    by_cases hf : u % 100 = 0
    · exact back_neg_whole u (by omega) (by omega) hf w htab
    · exact back_neg_frac u (by omega) (by omega) hf w htab
  · obtain ⟨u, rfl⟩ : ∃ u : Nat, r = (u : Int) := ⟨r.toNat, by omega⟩
    by_cases hf : u % 100 = 0
    · exact back_pos_whole u (by omega) hf w htab
    · exact back_pos_frac u (by omega) hf w htab

/-! ### The listed tables -/
def laid3 : List (String × DataW Unit) := Rows.fnRateAppendReadsBackThroughHundredthsRow.laid

theorem gPow : Tryd.prog.globalNamed tabName = some 0 := by kernel_rfl
theorem tPow : (Tryd.prog.globals[0]?).map (·.type) = some 42 := by kernel_rfl
theorem c32 : Tryd.prog.cellsOf 32 = 1 := by kernel_rfl
theorem c42 : Tryd.prog.cellsOf 42 = 20 := by kernel_rfl

theorem door_met (os : Os) (args : Array Value) : laidMetH Tryd.prog laid3 ((World.doorLaid Tryd.prog 24 os).forCall (fun _ _ => 0) ⟨#[], args, []⟩).memory :=
  laidMetH_of_parts3 (fuel := 8) (laidMet_of_run' 8 (by kernel_rfl) (by kernel_rfl)) (by kernel_rfl) (by kernel_rfl)

/-- What the condition gives the walks. -/
theorem of_laid {W : World} (h : laidMetH Tryd.prog laid3 W) : Lib.TabIs Tryd.prog W tabName .u64 Lib.pow10Tab := by
  rw [MakeChecks.laidMetH_plain _ _ _ (by kernel_rfl)] at h
  exact Lib.tabIs_of_head (rest := []) gPow tPow Tryd.underlying42 Tryd.underlying32 c32 c42 h.tail.tail

set_option maxRecDepth 100000 in
theorem lifted4 (os : Os) (started : os.Started) (H : Type) (enc : TypeId × Value → H) :
    ReturnsInHanded {} Tryd.checked os 4 .any (fun w args => (Rows.fnRateAppendReadsBackThroughHundredthsSpec.pre enc Tryd.prog Tryd.f4 [] false w args ∧ laidMetH Tryd.prog laid3 w) ∧ sizedMet enc Tryd.prog Tryd.f4 (OpenSpec.ofChange Rows.fnRateAppendReadsBackThroughHundredthsSpec) false w args)
      (Rows.fnRateAppendReadsBackThroughHundredthsSpec.post enc Tryd.prog Tryd.f4 false true false false) := by
  refine returnsInHanded_of_change_and (C := Tryd.checked) (X := fun w _ => laidMetH Tryd.prog laid3 w) (fun _ _ _ hh h => h.of_heap hh) own started (by kernel_rfl) Tryd.func4
    (ChangeSpec.witness_shaped (enc := enc) (C := Tryd.checked) (os := os) (X := fun w _ => laidMetH Tryd.prog laid3 w) false (World.doorLaid Tryd.prog 24 os) #[.int .i64 0] 8 rfl (World.shaped_of_RefB (by kernel_rfl) (by kernel_rfl)) (by kernel_rfl) (by kernel_rfl) (by kernel_rfl) (door_met os _)) ?_
  intro W base args ds gs before hval0 hW _ _ hL _
  have hval : ∀ (j : Nat) t v, Tryd.f4.params[j]? = some t → args[j]? = some v → Value.okWide Tryd.prog W .any base t v := hval0
  have hW' := hW
  obtain ⟨p, q, hA0, hV, rfl, hfz, hnd⟩ := hW
  have hA : DataW.TrodAll enc Tryd.prog W 0 (fun _ => true) true Tryd.f4.params.toList args.toList ds p := hA0
  rw [Tryd.params4] at hA hval
  obtain ⟨v0, vs0, d0, ds0, p0, q0, hargs, rfl, rfl, h0, r0⟩ := trodAll_cons hA
  obtain ⟨rfl, rfl, rfl⟩ := trodAll_nil r0
  obtain rfl : args = #[v0] := by cases args; simp_all
  obtain ⟨rfl, rfl⟩ := trodVars_none hV
  obtain ⟨r, rfl, rfl, rfl, wr⟩ := open_int Tryd.underlying2 (hval 0 2 v0 rfl rfl) h0
  clear hA0 hval0
  have bd := bounds_i64 wr
  have fin := back_any r bd.1 bd.2 W (of_laid hL)
  refine fin.mono fun e W' ⟨he, bel⟩ => ?_
  subst he
  exact ⟨_, rfl, _, _, _, [], _, [], hW', trodAll_mk1 (shut_bool Tryd.underlying4 _), (trodAll_cons_mk (shut_int Tryd.underlying2 wr) trodAll_mk0), rfl, bel.frame _, fun h => by cases h⟩

theorem row4 : Rows.FnRateAppendReadsBackThroughHundredthsSaid :=
  OpenClaim.holds_of_wide 4 Tryd.f4 rfl rfl rfl rfl rfl rfl rfl ⟨rfl, rfl, rfl, rfl, rfl⟩ rfl rfl rfl rfl rfl (by kernel_rfl) Tryd.func4 (by kernel_rfl)
    (of_decide_eq_true (by kernel_rfl)) (by unfold Func.isWrapper; first | (rw [if_pos (by decide +kernel)]; kernel_rfl) | (rw [if_neg (by decide +kernel)]; exact ⟨rfl, rfl⟩))
    (fun os started H enc _ => lifted4 os started H enc)

end Go.Proofs.Qxb6602662aDoor.Wk4
namespace Go.Proofs.Qxb6602662aDoor

/-- THE CARD. -/
theorem readsback_card : Rows.FnRateAppendReadsBackThroughHundredthsCardSaid :=
  Claim7.holds_tied_plain_at .later [] [.data, .data, .data] true Rows.fnRateAppendReadsBackThroughHundredthsCard.stood.harness false
    Wk4.row4 (fun _ h => by cases h) (by kernel_rfl) (fun _ h => by cases h) fnRateAppendReadsBackThroughHundredths_row_tie rfl ⟨rfl, rfl⟩ (by kernel_rfl) rfl
    (fun f fn hf hfn => by
      obtain rfl : f = 4 := Option.some.inj ((show Tryd.prog.funcNamed Rows.fnRateAppendReadsBackThroughHundredthsRow.func = some 4 by kernel_rfl).symm.trans hf) |>.symm
      obtain rfl : fn = Tryd.f4 := (Option.some.inj (Tryd.func4.symm.trans hfn)).symm
      exact ⟨by kernel_rfl, fun j t ht => by
        rw [Tryd.params4] at ht
        have hm : t ∈ [2] := by simpa using Array.mem_of_getElem? ht
        have hall : ([2].all fun u => !Tryd.prog.wantsStandIn u) = true := by kernel_rfl
        exact (show Tryd.prog.wantsStandIn t = false by simpa using List.all_eq_true.1 hall t hm)⟩)
    (by kernel_rfl)
#print axioms readsback_card
end Go.Proofs.Qxb6602662aDoor
