/-
  No cell of these rows narrows 'for every input' (looked for: loops, veiled, ifaces, maps, wideKeys, modest, calm, conditions, laid).
  DERIVED. THE GIVEN ROWS OF THIS SEAT. 4 by the template 'for every input the law returns true; each argument reads behind the call as it read before'; 0 by the template 'total and deterministic' (their statements: Qxb6603657aTotals.lean).
  GIVEN WITH THE SEED: the statements are not yours to turn. If you find one false, say at which input.
  Laid BY PROGRAM, IN A SANDBOX (cutbox-rows.mjs): the forced cells as the released guide's own fill.sh prints them over the translation 2dc6c916e5731f59… (all of the seat's roots in one cut). By AI agents, Wed Nov 11 2026. No macro, syntax, notation, axiom, sorry.
-/
import Derived.Test.Qxb6603657aChecked
import GoSem.Claim
import GoSem.ClaimJoined
import GoSem.ClaimMapViews
import Derived.JoinedTies
import Derived.KernelRfl
namespace Go.Proofs.Qxb6603657a
/- THE CELL 'sum', in the pinned program and in every row, IS THE sha256 OF THE DUMP (.gsa) THAT Qxb6603657aProg.lean LOADS. Nothing in Lean hashes anything: it is a label: what it is worth is what the hold of that sum in a sandbox is worth. -/
noncomputable def Try.pinned : Pinned := { name := "qxb6603657a", sum := "2dc6c916e5731f591734473673a922d09cf3816e32a3313aaea7890a8f69b4c8", checked := Try.checked }
namespace Rows
def none {H : Type} : Left H := { results := [], args := [] }

/-- 'zzlaws_root_b1.FnSeqRangesAddIsUnionCappedAtLowestGap': WHATEVER THE INPUT: true; the input reads as it did. -/
def fnSeqRangesAddIsUnionCappedAtLowestGapSpec : ChangeSpec := { name := "fnSeqRangesAddIsUnionCappedAtLowestGap", fn := fun _ => fun
  | [d1, d2, d3, d4, d5] => { results := [.lit (.bool true)], args := [d1, d2, d3, d4, d5] }
  | _ => none }
def fnSeqRangesAddIsUnionCappedAtLowestGapRow : OpenClaim := { program := "qxb6603657a", sum := "2dc6c916e5731f591734473673a922d09cf3816e32a3313aaea7890a8f69b4c8", func := "example.com/oncewise/oncewise/zzlaws_root_b1.FnSeqRangesAddIsUnionCappedAtLowestGap", spec := "fnSeqRangesAddIsUnionCappedAtLowestGap", inPlace := ["slices.overlaps[example.com/oncewise/oncewise.SeqRange]"], unfollowed := true, recurses := true, apart := false }
def FnSeqRangesAddIsUnionCappedAtLowestGapSaid : Prop := fnSeqRangesAddIsUnionCappedAtLowestGapRow.holds Try.pinned (OpenSpec.ofChange fnSeqRangesAddIsUnionCappedAtLowestGapSpec)

/-- ITS FALSE NEIGHBOUR: 'it returns false'. Refute it at one input. -/
def fnSeqRangesAddIsUnionCappedAtLowestGapWrong : ChangeSpec := { name := "fnSeqRangesAddIsUnionCappedAtLowestGap", fn := fun _ => fun
  | [d1, d2, d3, d4, d5] => { results := [.lit (.bool false)], args := [d1, d2, d3, d4, d5] }
  | _ => none }
def FnSeqRangesAddIsUnionCappedAtLowestGapWrongFalsely : Prop := fnSeqRangesAddIsUnionCappedAtLowestGapRow.holds Try.pinned (OpenSpec.ofChange fnSeqRangesAddIsUnionCappedAtLowestGapWrong)

/-- 'zzlaws_root_b1.FnSeqRangesAddScriptKeepsOrderCoverAndHull': WHATEVER THE INPUT: true; the input reads as it did. -/
def fnSeqRangesAddScriptKeepsOrderCoverAndHullSpec : ChangeSpec := { name := "fnSeqRangesAddScriptKeepsOrderCoverAndHull", fn := fun _ => fun
  | [d1, d2] => { results := [.lit (.bool true)], args := [d1, d2] }
  | _ => none }
def fnSeqRangesAddScriptKeepsOrderCoverAndHullRow : OpenClaim := { program := "qxb6603657a", sum := "2dc6c916e5731f591734473673a922d09cf3816e32a3313aaea7890a8f69b4c8", func := "example.com/oncewise/oncewise/zzlaws_root_b1.FnSeqRangesAddScriptKeepsOrderCoverAndHull", spec := "fnSeqRangesAddScriptKeepsOrderCoverAndHull", inPlace := ["slices.overlaps[example.com/oncewise/oncewise.SeqRange]"], unfollowed := true, recurses := true, apart := false }
def FnSeqRangesAddScriptKeepsOrderCoverAndHullSaid : Prop := fnSeqRangesAddScriptKeepsOrderCoverAndHullRow.holds Try.pinned (OpenSpec.ofChange fnSeqRangesAddScriptKeepsOrderCoverAndHullSpec)

/-- ITS FALSE NEIGHBOUR: 'it returns false'. Refute it at one input. -/
def fnSeqRangesAddScriptKeepsOrderCoverAndHullWrong : ChangeSpec := { name := "fnSeqRangesAddScriptKeepsOrderCoverAndHull", fn := fun _ => fun
  | [d1, d2] => { results := [.lit (.bool false)], args := [d1, d2] }
  | _ => none }
def FnSeqRangesAddScriptKeepsOrderCoverAndHullWrongFalsely : Prop := fnSeqRangesAddScriptKeepsOrderCoverAndHullRow.holds Try.pinned (OpenSpec.ofChange fnSeqRangesAddScriptKeepsOrderCoverAndHullWrong)

/-- 'zzlaws_root_b1.FnKeyRecordsEachHandsOutLiveRecordsInOrder': WHATEVER THE INPUT: true; the input reads as it did. -/
def fnKeyRecordsEachHandsOutLiveRecordsInOrderSpec : ChangeSpec := { name := "fnKeyRecordsEachHandsOutLiveRecordsInOrder", fn := fun _ => fun
  | [d1, d2, d3, d4, d5, d6, d7, d8, d9] => { results := [.lit (.bool true)], args := [d1, d2, d3, d4, d5, d6, d7, d8, d9] }
  | _ => none }
def fnKeyRecordsEachHandsOutLiveRecordsInOrderRow : OpenClaim := { program := "qxb6603657a", sum := "2dc6c916e5731f591734473673a922d09cf3816e32a3313aaea7890a8f69b4c8", func := "example.com/oncewise/oncewise/zzlaws_root_b1.FnKeyRecordsEachHandsOutLiveRecordsInOrder", spec := "fnKeyRecordsEachHandsOutLiveRecordsInOrder", unfollowed := true, recurses := true, apart := false }
def FnKeyRecordsEachHandsOutLiveRecordsInOrderSaid : Prop := fnKeyRecordsEachHandsOutLiveRecordsInOrderRow.holds Try.pinned (OpenSpec.ofChange fnKeyRecordsEachHandsOutLiveRecordsInOrderSpec)

/-- ITS FALSE NEIGHBOUR: 'it returns false'. Refute it at one input. -/
def fnKeyRecordsEachHandsOutLiveRecordsInOrderWrong : ChangeSpec := { name := "fnKeyRecordsEachHandsOutLiveRecordsInOrder", fn := fun _ => fun
  | [d1, d2, d3, d4, d5, d6, d7, d8, d9] => { results := [.lit (.bool false)], args := [d1, d2, d3, d4, d5, d6, d7, d8, d9] }
  | _ => none }
def FnKeyRecordsEachHandsOutLiveRecordsInOrderWrongFalsely : Prop := fnKeyRecordsEachHandsOutLiveRecordsInOrderRow.holds Try.pinned (OpenSpec.ofChange fnKeyRecordsEachHandsOutLiveRecordsInOrderWrong)

/-- 'zzlaws_root_b1.FnKeyRecordsEachPartsSurviveAppend': WHATEVER THE INPUT: true; the input reads as it did. -/
def fnKeyRecordsEachPartsSurviveAppendSpec : ChangeSpec := { name := "fnKeyRecordsEachPartsSurviveAppend", fn := fun _ => fun
  | [d1, d2, d3, d4, d5, d6, d7, d8, d9] => { results := [.lit (.bool true)], args := [d1, d2, d3, d4, d5, d6, d7, d8, d9] }
  | _ => none }
def fnKeyRecordsEachPartsSurviveAppendRow : OpenClaim := { program := "qxb6603657a", sum := "2dc6c916e5731f591734473673a922d09cf3816e32a3313aaea7890a8f69b4c8", func := "example.com/oncewise/oncewise/zzlaws_root_b1.FnKeyRecordsEachPartsSurviveAppend", spec := "fnKeyRecordsEachPartsSurviveAppend", unfollowed := true, recurses := true, apart := false }
def FnKeyRecordsEachPartsSurviveAppendSaid : Prop := fnKeyRecordsEachPartsSurviveAppendRow.holds Try.pinned (OpenSpec.ofChange fnKeyRecordsEachPartsSurviveAppendSpec)

/-- ITS FALSE NEIGHBOUR: 'it returns false'. Refute it at one input. -/
def fnKeyRecordsEachPartsSurviveAppendWrong : ChangeSpec := { name := "fnKeyRecordsEachPartsSurviveAppend", fn := fun _ => fun
  | [d1, d2, d3, d4, d5, d6, d7, d8, d9] => { results := [.lit (.bool false)], args := [d1, d2, d3, d4, d5, d6, d7, d8, d9] }
  | _ => none }
def FnKeyRecordsEachPartsSurviveAppendWrongFalsely : Prop := fnKeyRecordsEachPartsSurviveAppendRow.holds Try.pinned (OpenSpec.ofChange fnKeyRecordsEachPartsSurviveAppendWrong)

end Rows
end Go.Proofs.Qxb6603657a
