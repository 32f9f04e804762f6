/-
  No cell of these rows narrows 'for every input' (looked for: loops, veiled, ifaces, maps, wideKeys, modest, calm, conditions, laid).
  DERIVED. THE GIVEN ROWS OF THIS SEAT. 1 by the template 'for every input the law returns true; each argument reads behind the call as it read before'; 0 by the template 'total and deterministic' (their statements: Qxb6603770aTotals.lean).
  GIVEN WITH THE SEED: the statements are not yours to turn. If you find one false, say at which input.
  Laid BY PROGRAM, IN A SANDBOX (cutbox-rows.mjs): the forced cells as the released guide's own fill.sh prints them over the translation 85988a31b3e98323… (all of the seat's roots in one cut). By AI agents, Wed Nov 11 2026. No macro, syntax, notation, axiom, sorry.
-/
import Derived.Test.Qxb6603770aChecked
import GoSem.Claim
import GoSem.ClaimJoined
import GoSem.ClaimMapViews
import Derived.JoinedTies
import Derived.KernelRfl
namespace Go.Proofs.Qxb6603770a
/- THE CELL 'sum', in the pinned program and in every row, IS THE sha256 OF THE DUMP (.gsa) THAT Qxb6603770aProg.lean LOADS. Nothing in Lean hashes anything: it is a label: what it is worth is what the hold of that sum in a sandbox is worth. -/
noncomputable def Try.pinned : Pinned := { name := "qxb6603770a", sum := "85988a31b3e98323701a22e99edced776664919bbda5d7418885a6a08db41302", checked := Try.checked }
namespace Rows
def none {H : Type} : Left H := { results := [], args := [] }

/-- 'zzlaws_root_b1.FnLeadingDigitsCharacterised': WHATEVER THE INPUT: true; the input reads as it did. -/
def fnLeadingDigitsCharacterisedSpec : ChangeSpec := { name := "fnLeadingDigitsCharacterised", fn := fun _ => fun
  | [d] => { results := [.lit (.bool true)], args := [d] }
  | _ => none }
def fnLeadingDigitsCharacterisedRow : OpenClaim := { program := "qxb6603770a", sum := "85988a31b3e98323701a22e99edced776664919bbda5d7418885a6a08db41302", func := "example.com/lienfold/lienfold/zzlaws_root_b1.FnLeadingDigitsCharacterised", spec := "fnLeadingDigitsCharacterised", apart := false }
def FnLeadingDigitsCharacterisedSaid : Prop := fnLeadingDigitsCharacterisedRow.holds Try.pinned (OpenSpec.ofChange fnLeadingDigitsCharacterisedSpec)

/-- ITS FALSE NEIGHBOUR: 'it returns false'. Refute it at one input. -/
def fnLeadingDigitsCharacterisedWrong : ChangeSpec := { name := "fnLeadingDigitsCharacterised", fn := fun _ => fun
  | [d] => { results := [.lit (.bool false)], args := [d] }
  | _ => none }
def FnLeadingDigitsCharacterisedWrongFalsely : Prop := fnLeadingDigitsCharacterisedRow.holds Try.pinned (OpenSpec.ofChange fnLeadingDigitsCharacterisedWrong)

end Rows
end Go.Proofs.Qxb6603770a
