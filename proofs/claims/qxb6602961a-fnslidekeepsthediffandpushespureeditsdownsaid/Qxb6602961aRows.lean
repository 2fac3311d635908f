/-
  No cell of these rows narrows 'for every input' (looked for: loops, veiled, ifaces, maps, wideKeys, modest, calm, conditions, laid).
  DERIVED. THE GIVEN ROWS OF THIS SEAT. 4 by the template 'for every input the law returns true; each argument reads behind the call as it read before'; 0 by the template 'total and deterministic' (their statements: Qxb6602961aTotals.lean).
  GIVEN WITH THE SEED: the statements are not yours to turn. If you find one false, say at which input.
  Laid BY PROGRAM, IN A SANDBOX (cutbox-rows.mjs): the forced cells as the released guide's own fill.sh prints them over the translation 24c3b5fc1e3f0cca… (all of the seat's roots in one cut). By AI agents, Wed Nov 11 2026. No macro, syntax, notation, axiom, sorry.
-/
import Derived.Test.Qxb6602961aChecked
import GoSem.Claim
import GoSem.ClaimJoined
import GoSem.ClaimMapViews
import Derived.JoinedTies
import Derived.KernelRfl
namespace Go.Proofs.Qxb6602961a
/- THE CELL 'sum', in the pinned program and in every row, IS THE sha256 OF THE DUMP (.gsa) THAT Qxb6602961aProg.lean LOADS. Nothing in Lean hashes anything: it is a label: what it is worth is what the hold of that sum in a sandbox is worth. -/
noncomputable def Try.pinned : Pinned := { name := "qxb6602961a", sum := "24c3b5fc1e3f0cca1aeafe80e2b7c1118690dab9daa2f7fa4dd64896fc8cbe9a", checked := Try.checked }
namespace Rows
def none {H : Type} : Left H := { results := [], args := [] }

/-- 'zzlaws_diff_b1.FnCompareMarksAShortestEdit': WHATEVER THE INPUT: true; the input reads as it did. -/
def fnCompareMarksAShortestEditSpec : ChangeSpec := { name := "fnCompareMarksAShortestEdit", fn := fun _ => fun
  | [d1, d2, d3, d4, d5, d6] => { results := [.lit (.bool true)], args := [d1, d2, d3, d4, d5, d6] }
  | _ => none }
def fnCompareMarksAShortestEditRow : OpenClaim := { program := "qxb6602961a", sum := "24c3b5fc1e3f0cca1aeafe80e2b7c1118690dab9daa2f7fa4dd64896fc8cbe9a", func := "example.com/strata/strata/zzlaws_diff_b1.FnCompareMarksAShortestEdit", spec := "fnCompareMarksAShortestEdit", recurses := true, apart := false }
def FnCompareMarksAShortestEditSaid : Prop := fnCompareMarksAShortestEditRow.holds Try.pinned (OpenSpec.ofChange fnCompareMarksAShortestEditSpec)

/-- ITS FALSE NEIGHBOUR: 'it returns false'. Refute it at one input. -/
def fnCompareMarksAShortestEditWrong : ChangeSpec := { name := "fnCompareMarksAShortestEdit", fn := fun _ => fun
  | [d1, d2, d3, d4, d5, d6] => { results := [.lit (.bool false)], args := [d1, d2, d3, d4, d5, d6] }
  | _ => none }
def FnCompareMarksAShortestEditWrongFalsely : Prop := fnCompareMarksAShortestEditRow.holds Try.pinned (OpenSpec.ofChange fnCompareMarksAShortestEditWrong)

/-- 'zzlaws_diff_b1.FnSplitFindsAPointOnAShortestEdit': WHATEVER THE INPUT: true; the input reads as it did. -/
def fnSplitFindsAPointOnAShortestEditSpec : ChangeSpec := { name := "fnSplitFindsAPointOnAShortestEdit", fn := fun _ => fun
  | [d1, d2, d3, d4, d5, d6] => { results := [.lit (.bool true)], args := [d1, d2, d3, d4, d5, d6] }
  | _ => none }
def fnSplitFindsAPointOnAShortestEditRow : OpenClaim := { program := "qxb6602961a", sum := "24c3b5fc1e3f0cca1aeafe80e2b7c1118690dab9daa2f7fa4dd64896fc8cbe9a", func := "example.com/strata/strata/zzlaws_diff_b1.FnSplitFindsAPointOnAShortestEdit", spec := "fnSplitFindsAPointOnAShortestEdit", apart := false }
def FnSplitFindsAPointOnAShortestEditSaid : Prop := fnSplitFindsAPointOnAShortestEditRow.holds Try.pinned (OpenSpec.ofChange fnSplitFindsAPointOnAShortestEditSpec)

/-- ITS FALSE NEIGHBOUR: 'it returns false'. Refute it at one input. -/
def fnSplitFindsAPointOnAShortestEditWrong : ChangeSpec := { name := "fnSplitFindsAPointOnAShortestEdit", fn := fun _ => fun
  | [d1, d2, d3, d4, d5, d6] => { results := [.lit (.bool false)], args := [d1, d2, d3, d4, d5, d6] }
  | _ => none }
def FnSplitFindsAPointOnAShortestEditWrongFalsely : Prop := fnSplitFindsAPointOnAShortestEditRow.holds Try.pinned (OpenSpec.ofChange fnSplitFindsAPointOnAShortestEditWrong)

/-- 'zzlaws_diff_b1.FnSlideKeepsTheDiffAndPushesPureEditsDown': WHATEVER THE INPUT: true; the input reads as it did. -/
def fnSlideKeepsTheDiffAndPushesPureEditsDownSpec : ChangeSpec := { name := "fnSlideKeepsTheDiffAndPushesPureEditsDown", fn := fun _ => fun
  | [d1, d2, d3] => { results := [.lit (.bool true)], args := [d1, d2, d3] }
  | _ => none }
def fnSlideKeepsTheDiffAndPushesPureEditsDownRow : OpenClaim := { program := "qxb6602961a", sum := "24c3b5fc1e3f0cca1aeafe80e2b7c1118690dab9daa2f7fa4dd64896fc8cbe9a", func := "example.com/strata/strata/zzlaws_diff_b1.FnSlideKeepsTheDiffAndPushesPureEditsDown", spec := "fnSlideKeepsTheDiffAndPushesPureEditsDown", apart := false }
def FnSlideKeepsTheDiffAndPushesPureEditsDownSaid : Prop := fnSlideKeepsTheDiffAndPushesPureEditsDownRow.holds Try.pinned (OpenSpec.ofChange fnSlideKeepsTheDiffAndPushesPureEditsDownSpec)

/-- ITS FALSE NEIGHBOUR: 'it returns false'. Refute it at one input. -/
def fnSlideKeepsTheDiffAndPushesPureEditsDownWrong : ChangeSpec := { name := "fnSlideKeepsTheDiffAndPushesPureEditsDown", fn := fun _ => fun
  | [d1, d2, d3] => { results := [.lit (.bool false)], args := [d1, d2, d3] }
  | _ => none }
def FnSlideKeepsTheDiffAndPushesPureEditsDownWrongFalsely : Prop := fnSlideKeepsTheDiffAndPushesPureEditsDownRow.holds Try.pinned (OpenSpec.ofChange fnSlideKeepsTheDiffAndPushesPureEditsDownWrong)

/-- 'zzlaws_diff_b1.FnSlideIsIdempotent': WHATEVER THE INPUT: true; the input reads as it did. -/
def fnSlideIsIdempotentSpec : ChangeSpec := { name := "fnSlideIsIdempotent", fn := fun _ => fun
  | [d1, d2, d3] => { results := [.lit (.bool true)], args := [d1, d2, d3] }
  | _ => none }
def fnSlideIsIdempotentRow : OpenClaim := { program := "qxb6602961a", sum := "24c3b5fc1e3f0cca1aeafe80e2b7c1118690dab9daa2f7fa4dd64896fc8cbe9a", func := "example.com/strata/strata/zzlaws_diff_b1.FnSlideIsIdempotent", spec := "fnSlideIsIdempotent", apart := false }
def FnSlideIsIdempotentSaid : Prop := fnSlideIsIdempotentRow.holds Try.pinned (OpenSpec.ofChange fnSlideIsIdempotentSpec)

/-- ITS FALSE NEIGHBOUR: 'it returns false'. Refute it at one input. -/
def fnSlideIsIdempotentWrong : ChangeSpec := { name := "fnSlideIsIdempotent", fn := fun _ => fun
  | [d1, d2, d3] => { results := [.lit (.bool false)], args := [d1, d2, d3] }
  | _ => none }
def FnSlideIsIdempotentWrongFalsely : Prop := fnSlideIsIdempotentRow.holds Try.pinned (OpenSpec.ofChange fnSlideIsIdempotentWrong)

end Rows
end Go.Proofs.Qxb6602961a
