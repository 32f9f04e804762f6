/-
  No cell of these rows narrows 'for every input' (looked for: loops, veiled, ifaces, maps, wideKeys, modest, calm, conditions, laid).
  DERIVED. THE GIVEN ROWS OF THIS SEAT. 6 by the template 'for every input the law returns true; each argument reads behind the call as it read before'; 0 by the template 'total and deterministic' (their statements: Qxb6602854aTotals.lean).
  GIVEN WITH THE SEED: the statements are not yours to turn. If you find one false, say at which input.
  Laid BY PROGRAM, IN A SANDBOX (cutbox-rows.mjs): the forced cells as the released guide's own fill.sh prints them over the translation 07ea47661ce8fa9c… (all of the seat's roots in one cut). By AI agents, Wed Nov 11 2026. No macro, syntax, notation, axiom, sorry.
-/
import Derived.Test.Qxb6602854aChecked
import GoSem.Claim
import GoSem.ClaimJoined
import GoSem.ClaimMapViews
import Derived.JoinedTies
import Derived.KernelRfl
namespace Go.Proofs.Qxb6602854a
/- THE CELL 'sum', in the pinned program and in every row, IS THE sha256 OF THE DUMP (.gsa) THAT Qxb6602854aProg.lean LOADS. Nothing in Lean hashes anything: it is a label: what it is worth is what the hold of that sum in a sandbox is worth. -/
noncomputable def Try.pinned : Pinned := { name := "qxb6602854a", sum := "07ea47661ce8fa9c6c3caef8285318c53923fcdc3bac6d9306588200d1bb7efb", checked := Try.checked }
namespace Rows
def none {H : Type} : Left H := { results := [], args := [] }

/-- 'zzlaws_root_b1.FnDigits4MatchesDivision': WHATEVER THE INPUT: true; the input reads as it did. -/
def fnDigits4MatchesDivisionSpec : ChangeSpec := { name := "fnDigits4MatchesDivision", fn := fun _ => fun
  | [d] => { results := [.lit (.bool true)], args := [d] }
  | _ => none }
def fnDigits4MatchesDivisionRow : OpenClaim := { program := "qxb6602854a", sum := "07ea47661ce8fa9c6c3caef8285318c53923fcdc3bac6d9306588200d1bb7efb", func := "example.com/tenscale/tenscale/zzlaws_root_b1.FnDigits4MatchesDivision", spec := "fnDigits4MatchesDivision", apart := false }
def FnDigits4MatchesDivisionSaid : Prop := fnDigits4MatchesDivisionRow.holds Try.pinned (OpenSpec.ofChange fnDigits4MatchesDivisionSpec)

/-- ITS FALSE NEIGHBOUR: 'it returns false'. Refute it at one input. -/
def fnDigits4MatchesDivisionWrong : ChangeSpec := { name := "fnDigits4MatchesDivision", fn := fun _ => fun
  | [d] => { results := [.lit (.bool false)], args := [d] }
  | _ => none }
def FnDigits4MatchesDivisionWrongFalsely : Prop := fnDigits4MatchesDivisionRow.holds Try.pinned (OpenSpec.ofChange fnDigits4MatchesDivisionWrong)

/-- 'zzlaws_root_b1.FnDigits4RecomposesToLanes': WHATEVER THE INPUT: true; the input reads as it did. -/
def fnDigits4RecomposesToLanesSpec : ChangeSpec := { name := "fnDigits4RecomposesToLanes", fn := fun _ => fun
  | [d] => { results := [.lit (.bool true)], args := [d] }
  | _ => none }
def fnDigits4RecomposesToLanesRow : OpenClaim := { program := "qxb6602854a", sum := "07ea47661ce8fa9c6c3caef8285318c53923fcdc3bac6d9306588200d1bb7efb", func := "example.com/tenscale/tenscale/zzlaws_root_b1.FnDigits4RecomposesToLanes", spec := "fnDigits4RecomposesToLanes", apart := false }
def FnDigits4RecomposesToLanesSaid : Prop := fnDigits4RecomposesToLanesRow.holds Try.pinned (OpenSpec.ofChange fnDigits4RecomposesToLanesSpec)

/-- ITS FALSE NEIGHBOUR: 'it returns false'. Refute it at one input. -/
def fnDigits4RecomposesToLanesWrong : ChangeSpec := { name := "fnDigits4RecomposesToLanes", fn := fun _ => fun
  | [d] => { results := [.lit (.bool false)], args := [d] }
  | _ => none }
def FnDigits4RecomposesToLanesWrongFalsely : Prop := fnDigits4RecomposesToLanesRow.holds Try.pinned (OpenSpec.ofChange fnDigits4RecomposesToLanesWrong)

/-- 'zzlaws_root_b1.FnAppendFixedMatchesPlaceModel': WHATEVER THE INPUT: true; the input reads as it did. -/
def fnAppendFixedMatchesPlaceModelSpec : ChangeSpec := { name := "fnAppendFixedMatchesPlaceModel", fn := fun _ => fun
  | [d1, d2, d3, d4, d5] => { results := [.lit (.bool true)], args := [d1, d2, d3, d4, d5] }
  | _ => none }
def fnAppendFixedMatchesPlaceModelRow : OpenClaim := { program := "qxb6602854a", sum := "07ea47661ce8fa9c6c3caef8285318c53923fcdc3bac6d9306588200d1bb7efb", func := "example.com/tenscale/tenscale/zzlaws_root_b1.FnAppendFixedMatchesPlaceModel", spec := "fnAppendFixedMatchesPlaceModel", apart := false }
def FnAppendFixedMatchesPlaceModelSaid : Prop := fnAppendFixedMatchesPlaceModelRow.holds Try.pinned (OpenSpec.ofChange fnAppendFixedMatchesPlaceModelSpec)

/-- ITS FALSE NEIGHBOUR: 'it returns false'. Refute it at one input. -/
def fnAppendFixedMatchesPlaceModelWrong : ChangeSpec := { name := "fnAppendFixedMatchesPlaceModel", fn := fun _ => fun
  | [d1, d2, d3, d4, d5] => { results := [.lit (.bool false)], args := [d1, d2, d3, d4, d5] }
  | _ => none }
def FnAppendFixedMatchesPlaceModelWrongFalsely : Prop := fnAppendFixedMatchesPlaceModelRow.holds Try.pinned (OpenSpec.ofChange fnAppendFixedMatchesPlaceModelWrong)

/-- 'zzlaws_root_b1.FnAppendFixedIgnoresTrailingZero': WHATEVER THE INPUT: true; the input reads as it did. -/
def fnAppendFixedIgnoresTrailingZeroSpec : ChangeSpec := { name := "fnAppendFixedIgnoresTrailingZero", fn := fun _ => fun
  | [d1, d2, d3, d4, d5] => { results := [.lit (.bool true)], args := [d1, d2, d3, d4, d5] }
  | _ => none }
def fnAppendFixedIgnoresTrailingZeroRow : OpenClaim := { program := "qxb6602854a", sum := "07ea47661ce8fa9c6c3caef8285318c53923fcdc3bac6d9306588200d1bb7efb", func := "example.com/tenscale/tenscale/zzlaws_root_b1.FnAppendFixedIgnoresTrailingZero", spec := "fnAppendFixedIgnoresTrailingZero", apart := false }
def FnAppendFixedIgnoresTrailingZeroSaid : Prop := fnAppendFixedIgnoresTrailingZeroRow.holds Try.pinned (OpenSpec.ofChange fnAppendFixedIgnoresTrailingZeroSpec)

/-- ITS FALSE NEIGHBOUR: 'it returns false'. Refute it at one input. -/
def fnAppendFixedIgnoresTrailingZeroWrong : ChangeSpec := { name := "fnAppendFixedIgnoresTrailingZero", fn := fun _ => fun
  | [d1, d2, d3, d4, d5] => { results := [.lit (.bool false)], args := [d1, d2, d3, d4, d5] }
  | _ => none }
def FnAppendFixedIgnoresTrailingZeroWrongFalsely : Prop := fnAppendFixedIgnoresTrailingZeroRow.holds Try.pinned (OpenSpec.ofChange fnAppendFixedIgnoresTrailingZeroWrong)

/-- 'zzlaws_root_b1.FnAppendFixedPointMatchesPlaceModel': WHATEVER THE INPUT: true; the input reads as it did. -/
def fnAppendFixedPointMatchesPlaceModelSpec : ChangeSpec := { name := "fnAppendFixedPointMatchesPlaceModel", fn := fun _ => fun
  | [d1, d2, d3, d4, d5] => { results := [.lit (.bool true)], args := [d1, d2, d3, d4, d5] }
  | _ => none }
def fnAppendFixedPointMatchesPlaceModelRow : OpenClaim := { program := "qxb6602854a", sum := "07ea47661ce8fa9c6c3caef8285318c53923fcdc3bac6d9306588200d1bb7efb", func := "example.com/tenscale/tenscale/zzlaws_root_b1.FnAppendFixedPointMatchesPlaceModel", spec := "fnAppendFixedPointMatchesPlaceModel", apart := false }
def FnAppendFixedPointMatchesPlaceModelSaid : Prop := fnAppendFixedPointMatchesPlaceModelRow.holds Try.pinned (OpenSpec.ofChange fnAppendFixedPointMatchesPlaceModelSpec)

/-- ITS FALSE NEIGHBOUR: 'it returns false'. Refute it at one input. -/
def fnAppendFixedPointMatchesPlaceModelWrong : ChangeSpec := { name := "fnAppendFixedPointMatchesPlaceModel", fn := fun _ => fun
  | [d1, d2, d3, d4, d5] => { results := [.lit (.bool false)], args := [d1, d2, d3, d4, d5] }
  | _ => none }
def FnAppendFixedPointMatchesPlaceModelWrongFalsely : Prop := fnAppendFixedPointMatchesPlaceModelRow.holds Try.pinned (OpenSpec.ofChange fnAppendFixedPointMatchesPlaceModelWrong)

/-- 'zzlaws_root_b1.FnAppendFixedPointAgreesWithAppendFixed': WHATEVER THE INPUT: true; the input reads as it did. -/
def fnAppendFixedPointAgreesWithAppendFixedSpec : ChangeSpec := { name := "fnAppendFixedPointAgreesWithAppendFixed", fn := fun _ => fun
  | [d1, d2, d3, d4, d5] => { results := [.lit (.bool true)], args := [d1, d2, d3, d4, d5] }
  | _ => none }
def fnAppendFixedPointAgreesWithAppendFixedRow : OpenClaim := { program := "qxb6602854a", sum := "07ea47661ce8fa9c6c3caef8285318c53923fcdc3bac6d9306588200d1bb7efb", func := "example.com/tenscale/tenscale/zzlaws_root_b1.FnAppendFixedPointAgreesWithAppendFixed", spec := "fnAppendFixedPointAgreesWithAppendFixed", apart := false }
def FnAppendFixedPointAgreesWithAppendFixedSaid : Prop := fnAppendFixedPointAgreesWithAppendFixedRow.holds Try.pinned (OpenSpec.ofChange fnAppendFixedPointAgreesWithAppendFixedSpec)

/-- ITS FALSE NEIGHBOUR: 'it returns false'. Refute it at one input. -/
def fnAppendFixedPointAgreesWithAppendFixedWrong : ChangeSpec := { name := "fnAppendFixedPointAgreesWithAppendFixed", fn := fun _ => fun
  | [d1, d2, d3, d4, d5] => { results := [.lit (.bool false)], args := [d1, d2, d3, d4, d5] }
  | _ => none }
def FnAppendFixedPointAgreesWithAppendFixedWrongFalsely : Prop := fnAppendFixedPointAgreesWithAppendFixedRow.holds Try.pinned (OpenSpec.ofChange fnAppendFixedPointAgreesWithAppendFixedWrong)

end Rows
end Go.Proofs.Qxb6602854a
