/-
  No cell of these rows narrows 'for every input' (looked for: loops, veiled, ifaces, maps, wideKeys, modest, calm, conditions, laid).
  DERIVED. THE GIVEN ROWS OF THIS SEAT. 2 by the template 'for every input the law returns true; each argument reads behind the call as it read before'; 0 by the template 'total and deterministic' (their statements: Qxb6612866aTotals.lean).
  GIVEN WITH THE SEED: the statements are not yours to turn. If you find one false, say at which input.
  Laid BY PROGRAM, IN A SANDBOX (cutbox-rows.mjs): the forced cells as the released guide's own fill.sh prints them over the translation 8a41015958e01e3d… (all of the seat's roots in one cut). By AI agents, Wed Nov 11 2026. No macro, syntax, notation, axiom, sorry.
-/
import Derived.Test.Qxb6612866aChecked
import GoSem.Claim
import GoSem.ClaimJoined
import GoSem.ClaimMapViews
import Derived.JoinedTies
import Derived.KernelRfl
namespace Go.Proofs.Qxb6612866a
/- THE CELL 'sum', in the pinned program and in every row, IS THE sha256 OF THE DUMP (.gsa) THAT Qxb6612866aProg.lean LOADS. Nothing in Lean hashes anything: it is a label: what it is worth is what the hold of that sum in a sandbox is worth. -/
noncomputable def Try.pinned : Pinned := { name := "qxb6612866a", sum := "8a41015958e01e3dc8b8e62043f1482eeeed3d4d50068e54a7b28727a6f8cf20", checked := Try.checked }
namespace Rows
def none {H : Type} : Left H := { results := [], args := [] }

/-- 'zzlaws_plumtree_b1.FnMakeEagerTurnsALazyPeerEagerAndOwesItTheUnannounced': WHATEVER THE INPUT: true; the input reads as it did. -/
def fnMakeEagerTurnsALazyPeerEagerAndOwesItTheUnannouncedSpec : ChangeSpec := { name := "fnMakeEagerTurnsALazyPeerEagerAndOwesItTheUnannounced", fn := fun _ => fun
  | [d1, d2, d3, d4, d5] => { results := [.lit (.bool true)], args := [d1, d2, d3, d4, d5] }
  | _ => none }
def fnMakeEagerTurnsALazyPeerEagerAndOwesItTheUnannouncedRow : OpenClaim := { program := "qxb6612866a", sum := "8a41015958e01e3dc8b8e62043f1482eeeed3d4d50068e54a7b28727a6f8cf20", func := "example.com/spindrift/spindrift/zzlaws_plumtree_b1.FnMakeEagerTurnsALazyPeerEagerAndOwesItTheUnannounced", spec := "fnMakeEagerTurnsALazyPeerEagerAndOwesItTheUnannounced", unfollowed := true, recurses := true, plainKeys := false, apart := false }
def FnMakeEagerTurnsALazyPeerEagerAndOwesItTheUnannouncedSaid : Prop := fnMakeEagerTurnsALazyPeerEagerAndOwesItTheUnannouncedRow.holds Try.pinned (OpenSpec.ofChange fnMakeEagerTurnsALazyPeerEagerAndOwesItTheUnannouncedSpec)

/-- ITS FALSE NEIGHBOUR: 'it returns false'. Refute it at one input. -/
def fnMakeEagerTurnsALazyPeerEagerAndOwesItTheUnannouncedWrong : ChangeSpec := { name := "fnMakeEagerTurnsALazyPeerEagerAndOwesItTheUnannounced", fn := fun _ => fun
  | [d1, d2, d3, d4, d5] => { results := [.lit (.bool false)], args := [d1, d2, d3, d4, d5] }
  | _ => none }
def FnMakeEagerTurnsALazyPeerEagerAndOwesItTheUnannouncedWrongFalsely : Prop := fnMakeEagerTurnsALazyPeerEagerAndOwesItTheUnannouncedRow.holds Try.pinned (OpenSpec.ofChange fnMakeEagerTurnsALazyPeerEagerAndOwesItTheUnannouncedWrong)

/-- 'zzlaws_plumtree_b1.FnMakeEagerOwesEachPeerTheListOfItsOwnCall': WHATEVER THE INPUT: true; the input reads as it did. -/
def fnMakeEagerOwesEachPeerTheListOfItsOwnCallSpec : ChangeSpec := { name := "fnMakeEagerOwesEachPeerTheListOfItsOwnCall", fn := fun _ => fun
  | [d1, d2, d3, d4, d5, d6] => { results := [.lit (.bool true)], args := [d1, d2, d3, d4, d5, d6] }
  | _ => none }
def fnMakeEagerOwesEachPeerTheListOfItsOwnCallRow : OpenClaim := { program := "qxb6612866a", sum := "8a41015958e01e3dc8b8e62043f1482eeeed3d4d50068e54a7b28727a6f8cf20", func := "example.com/spindrift/spindrift/zzlaws_plumtree_b1.FnMakeEagerOwesEachPeerTheListOfItsOwnCall", spec := "fnMakeEagerOwesEachPeerTheListOfItsOwnCall", unfollowed := true, recurses := true, plainKeys := false, apart := false }
def FnMakeEagerOwesEachPeerTheListOfItsOwnCallSaid : Prop := fnMakeEagerOwesEachPeerTheListOfItsOwnCallRow.holds Try.pinned (OpenSpec.ofChange fnMakeEagerOwesEachPeerTheListOfItsOwnCallSpec)

/-- ITS FALSE NEIGHBOUR: 'it returns false'. Refute it at one input. -/
def fnMakeEagerOwesEachPeerTheListOfItsOwnCallWrong : ChangeSpec := { name := "fnMakeEagerOwesEachPeerTheListOfItsOwnCall", fn := fun _ => fun
  | [d1, d2, d3, d4, d5, d6] => { results := [.lit (.bool false)], args := [d1, d2, d3, d4, d5, d6] }
  | _ => none }
def FnMakeEagerOwesEachPeerTheListOfItsOwnCallWrongFalsely : Prop := fnMakeEagerOwesEachPeerTheListOfItsOwnCallRow.holds Try.pinned (OpenSpec.ofChange fnMakeEagerOwesEachPeerTheListOfItsOwnCallWrong)

end Rows
end Go.Proofs.Qxb6612866a
