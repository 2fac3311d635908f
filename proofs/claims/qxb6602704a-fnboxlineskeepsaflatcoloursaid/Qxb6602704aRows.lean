/-
  No cell of these rows narrows 'for every input' (looked for: loops, veiled, ifaces, maps, wideKeys, modest, calm, conditions, laid).
  DERIVED. THE GIVEN ROWS OF THIS SEAT. 7 by the template 'for every input the law returns true; each argument reads behind the call as it read before'; 0 by the template 'total and deterministic' (their statements: Qxb6602704aTotals.lean).
  GIVEN WITH THE SEED: the statements are not yours to turn. If you find one false, say at which input.
  Laid BY PROGRAM, IN A SANDBOX (cutbox-rows.mjs): the forced cells as the released guide's own fill.sh prints them over the translation baf82070d3bdd4ed… (all of the seat's roots in one cut). By AI agents, Wed Nov 11 2026. No macro, syntax, notation, axiom, sorry.
-/
import Derived.Test.Qxb6602704aChecked
import GoSem.Claim
import GoSem.ClaimJoined
import GoSem.ClaimMapViews
import Derived.JoinedTies
import Derived.KernelRfl
namespace Go.Proofs.Qxb6602704a
/- THE CELL 'sum', in the pinned program and in every row, IS THE sha256 OF THE DUMP (.gsa) THAT Qxb6602704aProg.lean LOADS. Nothing in Lean hashes anything: it is a label: what it is worth is what the hold of that sum in a sandbox is worth. -/
noncomputable def Try.pinned : Pinned := { name := "qxb6602704a", sum := "baf82070d3bdd4edf0b2228c393a9940824969787145b9e8254cc5e50b9e6285", checked := Try.checked }
namespace Rows
def none {H : Type} : Left H := { results := [], args := [] }

/-- 'zzlaws_internal_rendition_b1.FnBoxLinesIsClampedBoxMean': WHATEVER THE INPUT: true; the input reads as it did. -/
def fnBoxLinesIsClampedBoxMeanSpec : ChangeSpec := { name := "fnBoxLinesIsClampedBoxMean", fn := fun _ => fun
  | [d1, d2, d3, d4, d5, d6, d7, d8, d9] => { results := [.lit (.bool true)], args := [d1, d2, d3, d4, d5, d6, d7, d8, d9] }
  | _ => none }
def fnBoxLinesIsClampedBoxMeanRow : OpenClaim := { program := "qxb6602704a", sum := "baf82070d3bdd4edf0b2228c393a9940824969787145b9e8254cc5e50b9e6285", func := "example.com/enclosure/enclosure/zzlaws_internal_rendition_b1.FnBoxLinesIsClampedBoxMean", spec := "fnBoxLinesIsClampedBoxMean", unfollowed := true, recurses := true, apart := false }
def FnBoxLinesIsClampedBoxMeanSaid : Prop := fnBoxLinesIsClampedBoxMeanRow.holds Try.pinned (OpenSpec.ofChange fnBoxLinesIsClampedBoxMeanSpec)

/-- ITS FALSE NEIGHBOUR: 'it returns false'. Refute it at one input. -/
def fnBoxLinesIsClampedBoxMeanWrong : ChangeSpec := { name := "fnBoxLinesIsClampedBoxMean", fn := fun _ => fun
  | [d1, d2, d3, d4, d5, d6, d7, d8, d9] => { results := [.lit (.bool false)], args := [d1, d2, d3, d4, d5, d6, d7, d8, d9] }
  | _ => none }
def FnBoxLinesIsClampedBoxMeanWrongFalsely : Prop := fnBoxLinesIsClampedBoxMeanRow.holds Try.pinned (OpenSpec.ofChange fnBoxLinesIsClampedBoxMeanWrong)

/-- 'zzlaws_internal_rendition_b1.FnBoxLinesKeepsAFlatColour': WHATEVER THE INPUT: true; the input reads as it did. -/
def fnBoxLinesKeepsAFlatColourSpec : ChangeSpec := { name := "fnBoxLinesKeepsAFlatColour", fn := fun _ => fun
  | [d1, d2, d3, d4, d5, d6, d7, d8, d9, d10] => { results := [.lit (.bool true)], args := [d1, d2, d3, d4, d5, d6, d7, d8, d9, d10] }
  | _ => none }
def fnBoxLinesKeepsAFlatColourRow : OpenClaim := { program := "qxb6602704a", sum := "baf82070d3bdd4edf0b2228c393a9940824969787145b9e8254cc5e50b9e6285", func := "example.com/enclosure/enclosure/zzlaws_internal_rendition_b1.FnBoxLinesKeepsAFlatColour", spec := "fnBoxLinesKeepsAFlatColour", unfollowed := true, recurses := true, apart := false }
def FnBoxLinesKeepsAFlatColourSaid : Prop := fnBoxLinesKeepsAFlatColourRow.holds Try.pinned (OpenSpec.ofChange fnBoxLinesKeepsAFlatColourSpec)

/-- ITS FALSE NEIGHBOUR: 'it returns false'. Refute it at one input. -/
def fnBoxLinesKeepsAFlatColourWrong : ChangeSpec := { name := "fnBoxLinesKeepsAFlatColour", fn := fun _ => fun
  | [d1, d2, d3, d4, d5, d6, d7, d8, d9, d10] => { results := [.lit (.bool false)], args := [d1, d2, d3, d4, d5, d6, d7, d8, d9, d10] }
  | _ => none }
def FnBoxLinesKeepsAFlatColourWrongFalsely : Prop := fnBoxLinesKeepsAFlatColourRow.holds Try.pinned (OpenSpec.ofChange fnBoxLinesKeepsAFlatColourWrong)

/-- 'zzlaws_internal_rendition_b1.FnToHSBRoundTripsToRGB': WHATEVER THE INPUT: true; the input reads as it did. -/
def fnToHSBRoundTripsToRGBSpec : ChangeSpec := { name := "fnToHSBRoundTripsToRGB", fn := fun _ => fun
  | [d1, d2, d3] => { results := [.lit (.bool true)], args := [d1, d2, d3] }
  | _ => none }
def fnToHSBRoundTripsToRGBRow : OpenClaim := { program := "qxb6602704a", sum := "baf82070d3bdd4edf0b2228c393a9940824969787145b9e8254cc5e50b9e6285", func := "example.com/enclosure/enclosure/zzlaws_internal_rendition_b1.FnToHSBRoundTripsToRGB", spec := "fnToHSBRoundTripsToRGB", apart := false }
def FnToHSBRoundTripsToRGBSaid : Prop := fnToHSBRoundTripsToRGBRow.holds Try.pinned (OpenSpec.ofChange fnToHSBRoundTripsToRGBSpec)

/-- ITS FALSE NEIGHBOUR: 'it returns false'. Refute it at one input. -/
def fnToHSBRoundTripsToRGBWrong : ChangeSpec := { name := "fnToHSBRoundTripsToRGB", fn := fun _ => fun
  | [d1, d2, d3] => { results := [.lit (.bool false)], args := [d1, d2, d3] }
  | _ => none }
def FnToHSBRoundTripsToRGBWrongFalsely : Prop := fnToHSBRoundTripsToRGBRow.holds Try.pinned (OpenSpec.ofChange fnToHSBRoundTripsToRGBWrong)

/-- 'zzlaws_internal_rendition_b1.FnToHSBTurnsAndMirrorsHue': WHATEVER THE INPUT: true; the input reads as it did. -/
def fnToHSBTurnsAndMirrorsHueSpec : ChangeSpec := { name := "fnToHSBTurnsAndMirrorsHue", fn := fun _ => fun
  | [d1, d2, d3] => { results := [.lit (.bool true)], args := [d1, d2, d3] }
  | _ => none }
def fnToHSBTurnsAndMirrorsHueRow : OpenClaim := { program := "qxb6602704a", sum := "baf82070d3bdd4edf0b2228c393a9940824969787145b9e8254cc5e50b9e6285", func := "example.com/enclosure/enclosure/zzlaws_internal_rendition_b1.FnToHSBTurnsAndMirrorsHue", spec := "fnToHSBTurnsAndMirrorsHue", apart := false }
def FnToHSBTurnsAndMirrorsHueSaid : Prop := fnToHSBTurnsAndMirrorsHueRow.holds Try.pinned (OpenSpec.ofChange fnToHSBTurnsAndMirrorsHueSpec)

/-- ITS FALSE NEIGHBOUR: 'it returns false'. Refute it at one input. -/
def fnToHSBTurnsAndMirrorsHueWrong : ChangeSpec := { name := "fnToHSBTurnsAndMirrorsHue", fn := fun _ => fun
  | [d1, d2, d3] => { results := [.lit (.bool false)], args := [d1, d2, d3] }
  | _ => none }
def FnToHSBTurnsAndMirrorsHueWrongFalsely : Prop := fnToHSBTurnsAndMirrorsHueRow.holds Try.pinned (OpenSpec.ofChange fnToHSBTurnsAndMirrorsHueWrong)

/-- 'zzlaws_internal_rendition_b1.FnStoredMatchesComposedTurns': WHATEVER THE INPUT: true; the input reads as it did. -/
def fnStoredMatchesComposedTurnsSpec : ChangeSpec := { name := "fnStoredMatchesComposedTurns", fn := fun _ => fun
  | [d1, d2, d3, d4, d5] => { results := [.lit (.bool true)], args := [d1, d2, d3, d4, d5] }
  | _ => none }
def fnStoredMatchesComposedTurnsRow : OpenClaim := { program := "qxb6602704a", sum := "baf82070d3bdd4edf0b2228c393a9940824969787145b9e8254cc5e50b9e6285", func := "example.com/enclosure/enclosure/zzlaws_internal_rendition_b1.FnStoredMatchesComposedTurns", spec := "fnStoredMatchesComposedTurns", apart := false }
def FnStoredMatchesComposedTurnsSaid : Prop := fnStoredMatchesComposedTurnsRow.holds Try.pinned (OpenSpec.ofChange fnStoredMatchesComposedTurnsSpec)

/-- ITS FALSE NEIGHBOUR: 'it returns false'. Refute it at one input. -/
def fnStoredMatchesComposedTurnsWrong : ChangeSpec := { name := "fnStoredMatchesComposedTurns", fn := fun _ => fun
  | [d1, d2, d3, d4, d5] => { results := [.lit (.bool false)], args := [d1, d2, d3, d4, d5] }
  | _ => none }
def FnStoredMatchesComposedTurnsWrongFalsely : Prop := fnStoredMatchesComposedTurnsRow.holds Try.pinned (OpenSpec.ofChange fnStoredMatchesComposedTurnsWrong)

/-- 'zzlaws_internal_rendition_b1.FnStoredLandsInsideTheImage': WHATEVER THE INPUT: true; the input reads as it did. -/
def fnStoredLandsInsideTheImageSpec : ChangeSpec := { name := "fnStoredLandsInsideTheImage", fn := fun _ => fun
  | [d1, d2, d3, d4, d5] => { results := [.lit (.bool true)], args := [d1, d2, d3, d4, d5] }
  | _ => none }
def fnStoredLandsInsideTheImageRow : OpenClaim := { program := "qxb6602704a", sum := "baf82070d3bdd4edf0b2228c393a9940824969787145b9e8254cc5e50b9e6285", func := "example.com/enclosure/enclosure/zzlaws_internal_rendition_b1.FnStoredLandsInsideTheImage", spec := "fnStoredLandsInsideTheImage", apart := false }
def FnStoredLandsInsideTheImageSaid : Prop := fnStoredLandsInsideTheImageRow.holds Try.pinned (OpenSpec.ofChange fnStoredLandsInsideTheImageSpec)

/-- ITS FALSE NEIGHBOUR: 'it returns false'. Refute it at one input. -/
def fnStoredLandsInsideTheImageWrong : ChangeSpec := { name := "fnStoredLandsInsideTheImage", fn := fun _ => fun
  | [d1, d2, d3, d4, d5] => { results := [.lit (.bool false)], args := [d1, d2, d3, d4, d5] }
  | _ => none }
def FnStoredLandsInsideTheImageWrongFalsely : Prop := fnStoredLandsInsideTheImageRow.holds Try.pinned (OpenSpec.ofChange fnStoredLandsInsideTheImageWrong)

/-- 'zzlaws_internal_rendition_b1.FnStoredUndoneByInverse': WHATEVER THE INPUT: true; the input reads as it did. -/
def fnStoredUndoneByInverseSpec : ChangeSpec := { name := "fnStoredUndoneByInverse", fn := fun _ => fun
  | [d1, d2, d3, d4, d5] => { results := [.lit (.bool true)], args := [d1, d2, d3, d4, d5] }
  | _ => none }
def fnStoredUndoneByInverseRow : OpenClaim := { program := "qxb6602704a", sum := "baf82070d3bdd4edf0b2228c393a9940824969787145b9e8254cc5e50b9e6285", func := "example.com/enclosure/enclosure/zzlaws_internal_rendition_b1.FnStoredUndoneByInverse", spec := "fnStoredUndoneByInverse", apart := false }
def FnStoredUndoneByInverseSaid : Prop := fnStoredUndoneByInverseRow.holds Try.pinned (OpenSpec.ofChange fnStoredUndoneByInverseSpec)

/-- ITS FALSE NEIGHBOUR: 'it returns false'. Refute it at one input. -/
def fnStoredUndoneByInverseWrong : ChangeSpec := { name := "fnStoredUndoneByInverse", fn := fun _ => fun
  | [d1, d2, d3, d4, d5] => { results := [.lit (.bool false)], args := [d1, d2, d3, d4, d5] }
  | _ => none }
def FnStoredUndoneByInverseWrongFalsely : Prop := fnStoredUndoneByInverseRow.holds Try.pinned (OpenSpec.ofChange fnStoredUndoneByInverseWrong)

end Rows
end Go.Proofs.Qxb6602704a
