/-
  DERIVED. GIVEN WITH THE SEED: THE CARDS: each row of Qxb6602662aDoorRows.lean that lists a variable, with what it lists TIED to the program's text (the seventh form; the later family's looks); each row that meets fmt, with fmt's text TOLD by the authors' own Lean function (tested against real Go, not proved from fmt's source: count such statements apart). THE CARD IS WHAT COUNTS. Prove the row's statement (the work); the ties are given (Qxb6602662aDoorTie.lean); close each card by the builder's one call (the guide's Derived/Test/ToyasCard.lean, 'card_holds'). Laid BY PROGRAM, IN A SANDBOX (cutbox-door.mjs). By AI agents, Wed Nov 11 2026. No macro, syntax, notation, axiom, sorry.
-/
import Derived.Test.Qxb6602662aDoorRows
import GoSem.ClaimSeven
namespace Go.Proofs.Qxb6602662aDoor
namespace Rows

/-- THE TIED CARD OF 'zzlaws_pkg_money_b1.FnRateAppendMatchesDecimalModel'. -/
def fnRateAppendMatchesDecimalModelCard : Claim7 := { stood := { row := fnRateAppendMatchesDecimalModelRow, standIns := [], harness := (true, "74f7522379d8eb5185d82939f6372e50d3a0b779ffbdeda34303620846700630"), looks := false }, kinds := [], alts := [], laidByText := true, laidKinds := [.data, .data, .data], laidTests := true, laidLooks := .later }
def FnRateAppendMatchesDecimalModelCardSaid : Prop := Claim7.holds Tryd.pinned (.plain (OpenSpec.ofChange fnRateAppendMatchesDecimalModelSpec)) fnRateAppendMatchesDecimalModelCard

/-- THE TIED CARD OF 'zzlaws_pkg_money_b1.FnRateAppendReadsBackThroughHundredths'. -/
def fnRateAppendReadsBackThroughHundredthsCard : Claim7 := { stood := { row := fnRateAppendReadsBackThroughHundredthsRow, standIns := [], harness := (true, "74f7522379d8eb5185d82939f6372e50d3a0b779ffbdeda34303620846700630"), looks := false }, kinds := [], alts := [], laidByText := true, laidKinds := [.data, .data, .data], laidTests := true, laidLooks := .later }
def FnRateAppendReadsBackThroughHundredthsCardSaid : Prop := Claim7.holds Tryd.pinned (.plain (OpenSpec.ofChange fnRateAppendReadsBackThroughHundredthsSpec)) fnRateAppendReadsBackThroughHundredthsCard
end Rows
end Go.Proofs.Qxb6602662aDoor
