/-
  No cell of these rows narrows 'for every input' (looked for: loops, veiled, ifaces, maps, wideKeys, modest, calm, conditions, laid).
  DERIVED. THE GIVEN ROWS OF THIS SEAT. 8 by the template 'for every input the law returns true; each argument reads behind the call as it read before'; 0 by the template 'total and deterministic' (their statements: Qxb6612745aTotals.lean).
  GIVEN WITH THE SEED: the statements are not yours to turn. If you find one false, say at which input.
  Laid BY PROGRAM, IN A SANDBOX (cutbox-rows.mjs): the forced cells as the released guide's own fill.sh prints them over the translation bd78a47044b25f21… (all of the seat's roots in one cut). By AI agents, Wed Nov 11 2026. No macro, syntax, notation, axiom, sorry.
-/
import Derived.Test.Qxb6612745aChecked
import GoSem.Claim
import GoSem.ClaimJoined
import GoSem.ClaimMapViews
import Derived.JoinedTies
import Derived.KernelRfl
namespace Go.Proofs.Qxb6612745a
/- THE CELL 'sum', in the pinned program and in every row, IS THE sha256 OF THE DUMP (.gsa) THAT Qxb6612745aProg.lean LOADS. Nothing in Lean hashes anything: it is a label: what it is worth is what the hold of that sum in a sandbox is worth. -/
noncomputable def Try.pinned : Pinned := { name := "qxb6612745a", sum := "bd78a47044b25f21be9736f5387efecc07a5a06cd47706a182e4cc152279f074", checked := Try.checked }
namespace Rows
def none {H : Type} : Left H := { results := [], args := [] }

/-- 'zzlaws_vtp_b1.FnLearnsAtHoldingBothWaysIsEitherWay': WHATEVER THE INPUT: true; the input reads as it did. -/
def fnLearnsAtHoldingBothWaysIsEitherWaySpec : ChangeSpec := { name := "fnLearnsAtHoldingBothWaysIsEitherWay", fn := fun _ => fun
  | [d1, d2, d3, d4, d5] => { results := [.lit (.bool true)], args := [d1, d2, d3, d4, d5] }
  | _ => none }
def fnLearnsAtHoldingBothWaysIsEitherWayRow : OpenClaim := { program := "qxb6612745a", sum := "bd78a47044b25f21be9736f5387efecc07a5a06cd47706a182e4cc152279f074", func := "example.com/tideline/tideline/zzlaws_vtp_b1.FnLearnsAtHoldingBothWaysIsEitherWay", spec := "fnLearnsAtHoldingBothWaysIsEitherWay", inPlace := ["internal/bytealg.abigen_runtime_cmpstring"], recurses := true, apart := false }
def FnLearnsAtHoldingBothWaysIsEitherWaySaid : Prop := fnLearnsAtHoldingBothWaysIsEitherWayRow.holds Try.pinned (OpenSpec.ofChange fnLearnsAtHoldingBothWaysIsEitherWaySpec)

/-- ITS FALSE NEIGHBOUR: 'it returns false'. Refute it at one input. -/
def fnLearnsAtHoldingBothWaysIsEitherWayWrong : ChangeSpec := { name := "fnLearnsAtHoldingBothWaysIsEitherWay", fn := fun _ => fun
  | [d1, d2, d3, d4, d5] => { results := [.lit (.bool false)], args := [d1, d2, d3, d4, d5] }
  | _ => none }
def FnLearnsAtHoldingBothWaysIsEitherWayWrongFalsely : Prop := fnLearnsAtHoldingBothWaysIsEitherWayRow.holds Try.pinned (OpenSpec.ofChange fnLearnsAtHoldingBothWaysIsEitherWayWrong)

/-- 'zzlaws_vtp_b1.FnLearnsAtHoldingStopsOnceBHoldsTheJoin': WHATEVER THE INPUT: true; the input reads as it did. -/
def fnLearnsAtHoldingStopsOnceBHoldsTheJoinSpec : ChangeSpec := { name := "fnLearnsAtHoldingStopsOnceBHoldsTheJoin", fn := fun _ => fun
  | [d1, d2, d3, d4, d5] => { results := [.lit (.bool true)], args := [d1, d2, d3, d4, d5] }
  | _ => none }
def fnLearnsAtHoldingStopsOnceBHoldsTheJoinRow : OpenClaim := { program := "qxb6612745a", sum := "bd78a47044b25f21be9736f5387efecc07a5a06cd47706a182e4cc152279f074", func := "example.com/tideline/tideline/zzlaws_vtp_b1.FnLearnsAtHoldingStopsOnceBHoldsTheJoin", spec := "fnLearnsAtHoldingStopsOnceBHoldsTheJoin", inPlace := ["internal/bytealg.abigen_runtime_cmpstring"], recurses := true, apart := false }
def FnLearnsAtHoldingStopsOnceBHoldsTheJoinSaid : Prop := fnLearnsAtHoldingStopsOnceBHoldsTheJoinRow.holds Try.pinned (OpenSpec.ofChange fnLearnsAtHoldingStopsOnceBHoldsTheJoinSpec)

/-- ITS FALSE NEIGHBOUR: 'it returns false'. Refute it at one input. -/
def fnLearnsAtHoldingStopsOnceBHoldsTheJoinWrong : ChangeSpec := { name := "fnLearnsAtHoldingStopsOnceBHoldsTheJoin", fn := fun _ => fun
  | [d1, d2, d3, d4, d5] => { results := [.lit (.bool false)], args := [d1, d2, d3, d4, d5] }
  | _ => none }
def FnLearnsAtHoldingStopsOnceBHoldsTheJoinWrongFalsely : Prop := fnLearnsAtHoldingStopsOnceBHoldsTheJoinRow.holds Try.pinned (OpenSpec.ofChange fnLearnsAtHoldingStopsOnceBHoldsTheJoinWrong)

/-- 'zzlaws_vtp_b1.FnHeldNewsAgainstJoinedKnowledge': WHATEVER THE INPUT: true; the input reads as it did. -/
def fnHeldNewsAgainstJoinedKnowledgeSpec : ChangeSpec := { name := "fnHeldNewsAgainstJoinedKnowledge", fn := fun _ => fun
  | [d1, d2, d3, d4] => { results := [.lit (.bool true)], args := [d1, d2, d3, d4] }
  | _ => none }
def fnHeldNewsAgainstJoinedKnowledgeRow : OpenClaim := { program := "qxb6612745a", sum := "bd78a47044b25f21be9736f5387efecc07a5a06cd47706a182e4cc152279f074", func := "example.com/tideline/tideline/zzlaws_vtp_b1.FnHeldNewsAgainstJoinedKnowledge", spec := "fnHeldNewsAgainstJoinedKnowledge", inPlace := ["internal/bytealg.abigen_runtime_cmpstring"], recurses := true, apart := false }
def FnHeldNewsAgainstJoinedKnowledgeSaid : Prop := fnHeldNewsAgainstJoinedKnowledgeRow.holds Try.pinned (OpenSpec.ofChange fnHeldNewsAgainstJoinedKnowledgeSpec)

/-- ITS FALSE NEIGHBOUR: 'it returns false'. Refute it at one input. -/
def fnHeldNewsAgainstJoinedKnowledgeWrong : ChangeSpec := { name := "fnHeldNewsAgainstJoinedKnowledge", fn := fun _ => fun
  | [d1, d2, d3, d4] => { results := [.lit (.bool false)], args := [d1, d2, d3, d4] }
  | _ => none }
def FnHeldNewsAgainstJoinedKnowledgeWrongFalsely : Prop := fnHeldNewsAgainstJoinedKnowledgeRow.holds Try.pinned (OpenSpec.ofChange fnHeldNewsAgainstJoinedKnowledgeWrong)

/-- 'zzlaws_vtp_b1.FnHeldNewsOnlyOnAnEntryOfItsOwn': WHATEVER THE INPUT: true; the input reads as it did. -/
def fnHeldNewsOnlyOnAnEntryOfItsOwnSpec : ChangeSpec := { name := "fnHeldNewsOnlyOnAnEntryOfItsOwn", fn := fun _ => fun
  | [d1, d2, d3, d4, d5, d6, d7] => { results := [.lit (.bool true)], args := [d1, d2, d3, d4, d5, d6, d7] }
  | _ => none }
def fnHeldNewsOnlyOnAnEntryOfItsOwnRow : OpenClaim := { program := "qxb6612745a", sum := "bd78a47044b25f21be9736f5387efecc07a5a06cd47706a182e4cc152279f074", func := "example.com/tideline/tideline/zzlaws_vtp_b1.FnHeldNewsOnlyOnAnEntryOfItsOwn", spec := "fnHeldNewsOnlyOnAnEntryOfItsOwn", inPlace := ["internal/bytealg.abigen_runtime_cmpstring"], recurses := true, apart := false }
def FnHeldNewsOnlyOnAnEntryOfItsOwnSaid : Prop := fnHeldNewsOnlyOnAnEntryOfItsOwnRow.holds Try.pinned (OpenSpec.ofChange fnHeldNewsOnlyOnAnEntryOfItsOwnSpec)

/-- ITS FALSE NEIGHBOUR: 'it returns false'. Refute it at one input. -/
def fnHeldNewsOnlyOnAnEntryOfItsOwnWrong : ChangeSpec := { name := "fnHeldNewsOnlyOnAnEntryOfItsOwn", fn := fun _ => fun
  | [d1, d2, d3, d4, d5, d6, d7] => { results := [.lit (.bool false)], args := [d1, d2, d3, d4, d5, d6, d7] }
  | _ => none }
def FnHeldNewsOnlyOnAnEntryOfItsOwnWrongFalsely : Prop := fnHeldNewsOnlyOnAnEntryOfItsOwnRow.holds Try.pinned (OpenSpec.ofChange fnHeldNewsOnlyOnAnEntryOfItsOwnWrong)

/-- 'zzlaws_vtp_b1.FnRemovedEachRecognisesTheCrossing': WHATEVER THE INPUT: true; the input reads as it did. -/
def fnRemovedEachRecognisesTheCrossingSpec : ChangeSpec := { name := "fnRemovedEachRecognisesTheCrossing", fn := fun _ => fun
  | [d1, d2, d3, d4, d5] => { results := [.lit (.bool true)], args := [d1, d2, d3, d4, d5] }
  | _ => none }
def fnRemovedEachRecognisesTheCrossingRow : OpenClaim := { program := "qxb6612745a", sum := "bd78a47044b25f21be9736f5387efecc07a5a06cd47706a182e4cc152279f074", func := "example.com/tideline/tideline/zzlaws_vtp_b1.FnRemovedEachRecognisesTheCrossing", spec := "fnRemovedEachRecognisesTheCrossing", inPlace := ["internal/bytealg.abigen_runtime_cmpstring"], recurses := true, apart := false }
def FnRemovedEachRecognisesTheCrossingSaid : Prop := fnRemovedEachRecognisesTheCrossingRow.holds Try.pinned (OpenSpec.ofChange fnRemovedEachRecognisesTheCrossingSpec)

/-- ITS FALSE NEIGHBOUR: 'it returns false'. Refute it at one input. -/
def fnRemovedEachRecognisesTheCrossingWrong : ChangeSpec := { name := "fnRemovedEachRecognisesTheCrossing", fn := fun _ => fun
  | [d1, d2, d3, d4, d5] => { results := [.lit (.bool false)], args := [d1, d2, d3, d4, d5] }
  | _ => none }
def FnRemovedEachRecognisesTheCrossingWrongFalsely : Prop := fnRemovedEachRecognisesTheCrossingRow.holds Try.pinned (OpenSpec.ofChange fnRemovedEachRecognisesTheCrossingWrong)

/-- 'zzlaws_vtp_b1.FnRemovedEachNothingRemovedWhereNoEntryStands': WHATEVER THE INPUT: true; the input reads as it did. -/
def fnRemovedEachNothingRemovedWhereNoEntryStandsSpec : ChangeSpec := { name := "fnRemovedEachNothingRemovedWhereNoEntryStands", fn := fun _ => fun
  | [d1, d2, d3, d4, d5] => { results := [.lit (.bool true)], args := [d1, d2, d3, d4, d5] }
  | _ => none }
def fnRemovedEachNothingRemovedWhereNoEntryStandsRow : OpenClaim := { program := "qxb6612745a", sum := "bd78a47044b25f21be9736f5387efecc07a5a06cd47706a182e4cc152279f074", func := "example.com/tideline/tideline/zzlaws_vtp_b1.FnRemovedEachNothingRemovedWhereNoEntryStands", spec := "fnRemovedEachNothingRemovedWhereNoEntryStands", inPlace := ["internal/bytealg.abigen_runtime_cmpstring"], recurses := true, apart := false }
def FnRemovedEachNothingRemovedWhereNoEntryStandsSaid : Prop := fnRemovedEachNothingRemovedWhereNoEntryStandsRow.holds Try.pinned (OpenSpec.ofChange fnRemovedEachNothingRemovedWhereNoEntryStandsSpec)

/-- ITS FALSE NEIGHBOUR: 'it returns false'. Refute it at one input. -/
def fnRemovedEachNothingRemovedWhereNoEntryStandsWrong : ChangeSpec := { name := "fnRemovedEachNothingRemovedWhereNoEntryStands", fn := fun _ => fun
  | [d1, d2, d3, d4, d5] => { results := [.lit (.bool false)], args := [d1, d2, d3, d4, d5] }
  | _ => none }
def FnRemovedEachNothingRemovedWhereNoEntryStandsWrongFalsely : Prop := fnRemovedEachNothingRemovedWhereNoEntryStandsRow.holds Try.pinned (OpenSpec.ofChange fnRemovedEachNothingRemovedWhereNoEntryStandsWrong)

/-- 'zzlaws_vtp_b1.FnOverIsTheNearestHeldAncestor': WHATEVER THE INPUT: true; the input reads as it did. -/
def fnOverIsTheNearestHeldAncestorSpec : ChangeSpec := { name := "fnOverIsTheNearestHeldAncestor", fn := fun _ => fun
  | [d1, d2] => { results := [.lit (.bool true)], args := [d1, d2] }
  | _ => none }
def fnOverIsTheNearestHeldAncestorRow : OpenClaim := { program := "qxb6612745a", sum := "bd78a47044b25f21be9736f5387efecc07a5a06cd47706a182e4cc152279f074", func := "example.com/tideline/tideline/zzlaws_vtp_b1.FnOverIsTheNearestHeldAncestor", spec := "fnOverIsTheNearestHeldAncestor", apart := false }
def FnOverIsTheNearestHeldAncestorSaid : Prop := fnOverIsTheNearestHeldAncestorRow.holds Try.pinned (OpenSpec.ofChange fnOverIsTheNearestHeldAncestorSpec)

/-- ITS FALSE NEIGHBOUR: 'it returns false'. Refute it at one input. -/
def fnOverIsTheNearestHeldAncestorWrong : ChangeSpec := { name := "fnOverIsTheNearestHeldAncestor", fn := fun _ => fun
  | [d1, d2] => { results := [.lit (.bool false)], args := [d1, d2] }
  | _ => none }
def FnOverIsTheNearestHeldAncestorWrongFalsely : Prop := fnOverIsTheNearestHeldAncestorRow.holds Try.pinned (OpenSpec.ofChange fnOverIsTheNearestHeldAncestorWrong)

/-- 'zzlaws_vtp_b1.FnOverOfAChildIsTheParentOrWhatTheParentInherits': WHATEVER THE INPUT: true; the input reads as it did. -/
def fnOverOfAChildIsTheParentOrWhatTheParentInheritsSpec : ChangeSpec := { name := "fnOverOfAChildIsTheParentOrWhatTheParentInherits", fn := fun _ => fun
  | [d1, d2, d3] => { results := [.lit (.bool true)], args := [d1, d2, d3] }
  | _ => none }
def fnOverOfAChildIsTheParentOrWhatTheParentInheritsRow : OpenClaim := { program := "qxb6612745a", sum := "bd78a47044b25f21be9736f5387efecc07a5a06cd47706a182e4cc152279f074", func := "example.com/tideline/tideline/zzlaws_vtp_b1.FnOverOfAChildIsTheParentOrWhatTheParentInherits", spec := "fnOverOfAChildIsTheParentOrWhatTheParentInherits", apart := false }
def FnOverOfAChildIsTheParentOrWhatTheParentInheritsSaid : Prop := fnOverOfAChildIsTheParentOrWhatTheParentInheritsRow.holds Try.pinned (OpenSpec.ofChange fnOverOfAChildIsTheParentOrWhatTheParentInheritsSpec)

/-- ITS FALSE NEIGHBOUR: 'it returns false'. Refute it at one input. -/
def fnOverOfAChildIsTheParentOrWhatTheParentInheritsWrong : ChangeSpec := { name := "fnOverOfAChildIsTheParentOrWhatTheParentInherits", fn := fun _ => fun
  | [d1, d2, d3] => { results := [.lit (.bool false)], args := [d1, d2, d3] }
  | _ => none }
def FnOverOfAChildIsTheParentOrWhatTheParentInheritsWrongFalsely : Prop := fnOverOfAChildIsTheParentOrWhatTheParentInheritsRow.holds Try.pinned (OpenSpec.ofChange fnOverOfAChildIsTheParentOrWhatTheParentInheritsWrong)

end Rows
end Go.Proofs.Qxb6612745a
