/-
  No cell of these rows narrows 'for every input' (looked for: loops, veiled, ifaces, maps, wideKeys, modest, calm, conditions, laid).
  DERIVED. THE GIVEN ROWS OF THIS SEAT. 6 by the template 'for every input the law returns true; each argument reads behind the call as it read before'; 0 by the template 'total and deterministic' (their statements: Qxb6600028aTotals.lean).
  GIVEN WITH THE SEED: the statements are not yours to turn. If you find one false, say at which input.
  Laid BY PROGRAM, IN A SANDBOX (cutbox-rows.mjs): the forced cells as the released guide's own fill.sh prints them over the translation a0e81dc3b8e684b6… (all of the seat's roots in one cut). By AI agents, Wed Nov 11 2026. No macro, syntax, notation, axiom, sorry.
-/
import Derived.Test.Qxb6600028aChecked
import GoSem.Claim
import GoSem.ClaimJoined
import GoSem.ClaimMapViews
import Derived.JoinedTies
import Derived.KernelRfl
namespace Go.Proofs.Qxb6600028a
/- THE CELL 'sum', in the pinned program and in every row, IS THE sha256 OF THE DUMP (.gsa) THAT Qxb6600028aProg.lean LOADS. Nothing in Lean hashes anything: it is a label: what it is worth is what the hold of that sum in a sandbox is worth. -/
noncomputable def Try.pinned : Pinned := { name := "qxb6600028a", sum := "a0e81dc3b8e684b6df39521e7d69ccfef9b87132a8515791dcb0c1f5f8b856fb", checked := Try.checked }
namespace Rows
def none {H : Type} : Left H := { results := [], args := [] }

/-- 'zzlaws_internal_digraph_b1.FnLowestOnCycleIsLowestSelfReachingPlace': WHATEVER THE INPUT: true; the input reads as it did. -/
def fnLowestOnCycleIsLowestSelfReachingPlaceSpec : ChangeSpec := { name := "fnLowestOnCycleIsLowestSelfReachingPlace", fn := fun _ => fun
  | [d1, d2] => { results := [.lit (.bool true)], args := [d1, d2] }
  | _ => none }
def fnLowestOnCycleIsLowestSelfReachingPlaceRow : OpenClaim := { program := "qxb6600028a", sum := "a0e81dc3b8e684b6df39521e7d69ccfef9b87132a8515791dcb0c1f5f8b856fb", func := "example.com/verrou/verrou/zzlaws_internal_digraph_b1.FnLowestOnCycleIsLowestSelfReachingPlace", spec := "fnLowestOnCycleIsLowestSelfReachingPlace", apart := false }
def FnLowestOnCycleIsLowestSelfReachingPlaceSaid : Prop := fnLowestOnCycleIsLowestSelfReachingPlaceRow.holds Try.pinned (OpenSpec.ofChange fnLowestOnCycleIsLowestSelfReachingPlaceSpec)

/-- ITS FALSE NEIGHBOUR: 'it returns false'. Refute it at one input. -/
def fnLowestOnCycleIsLowestSelfReachingPlaceWrong : ChangeSpec := { name := "fnLowestOnCycleIsLowestSelfReachingPlace", fn := fun _ => fun
  | [d1, d2] => { results := [.lit (.bool false)], args := [d1, d2] }
  | _ => none }
def FnLowestOnCycleIsLowestSelfReachingPlaceWrongFalsely : Prop := fnLowestOnCycleIsLowestSelfReachingPlaceRow.holds Try.pinned (OpenSpec.ofChange fnLowestOnCycleIsLowestSelfReachingPlaceWrong)

/-- 'zzlaws_internal_digraph_b1.FnLowestOnCycleNoneIffKahnOrdersAll': WHATEVER THE INPUT: true; the input reads as it did. -/
def fnLowestOnCycleNoneIffKahnOrdersAllSpec : ChangeSpec := { name := "fnLowestOnCycleNoneIffKahnOrdersAll", fn := fun _ => fun
  | [d1, d2] => { results := [.lit (.bool true)], args := [d1, d2] }
  | _ => none }
def fnLowestOnCycleNoneIffKahnOrdersAllRow : OpenClaim := { program := "qxb6600028a", sum := "a0e81dc3b8e684b6df39521e7d69ccfef9b87132a8515791dcb0c1f5f8b856fb", func := "example.com/verrou/verrou/zzlaws_internal_digraph_b1.FnLowestOnCycleNoneIffKahnOrdersAll", spec := "fnLowestOnCycleNoneIffKahnOrdersAll", apart := false }
def FnLowestOnCycleNoneIffKahnOrdersAllSaid : Prop := fnLowestOnCycleNoneIffKahnOrdersAllRow.holds Try.pinned (OpenSpec.ofChange fnLowestOnCycleNoneIffKahnOrdersAllSpec)

/-- ITS FALSE NEIGHBOUR: 'it returns false'. Refute it at one input. -/
def fnLowestOnCycleNoneIffKahnOrdersAllWrong : ChangeSpec := { name := "fnLowestOnCycleNoneIffKahnOrdersAll", fn := fun _ => fun
  | [d1, d2] => { results := [.lit (.bool false)], args := [d1, d2] }
  | _ => none }
def FnLowestOnCycleNoneIffKahnOrdersAllWrongFalsely : Prop := fnLowestOnCycleNoneIffKahnOrdersAllRow.holds Try.pinned (OpenSpec.ofChange fnLowestOnCycleNoneIffKahnOrdersAllWrong)

/-- 'zzlaws_internal_digraph_b1.FnLowestOnCycleAddArcLowersOrKeeps': WHATEVER THE INPUT: true; the input reads as it did. -/
def fnLowestOnCycleAddArcLowersOrKeepsSpec : ChangeSpec := { name := "fnLowestOnCycleAddArcLowersOrKeeps", fn := fun _ => fun
  | [d1, d2, d3, d4] => { results := [.lit (.bool true)], args := [d1, d2, d3, d4] }
  | _ => none }
def fnLowestOnCycleAddArcLowersOrKeepsRow : OpenClaim := { program := "qxb6600028a", sum := "a0e81dc3b8e684b6df39521e7d69ccfef9b87132a8515791dcb0c1f5f8b856fb", func := "example.com/verrou/verrou/zzlaws_internal_digraph_b1.FnLowestOnCycleAddArcLowersOrKeeps", spec := "fnLowestOnCycleAddArcLowersOrKeeps", apart := false }
def FnLowestOnCycleAddArcLowersOrKeepsSaid : Prop := fnLowestOnCycleAddArcLowersOrKeepsRow.holds Try.pinned (OpenSpec.ofChange fnLowestOnCycleAddArcLowersOrKeepsSpec)

/-- ITS FALSE NEIGHBOUR: 'it returns false'. Refute it at one input. -/
def fnLowestOnCycleAddArcLowersOrKeepsWrong : ChangeSpec := { name := "fnLowestOnCycleAddArcLowersOrKeeps", fn := fun _ => fun
  | [d1, d2, d3, d4] => { results := [.lit (.bool false)], args := [d1, d2, d3, d4] }
  | _ => none }
def FnLowestOnCycleAddArcLowersOrKeepsWrongFalsely : Prop := fnLowestOnCycleAddArcLowersOrKeepsRow.holds Try.pinned (OpenSpec.ofChange fnLowestOnCycleAddArcLowersOrKeepsWrong)

/-- 'zzlaws_internal_digraph_b1.FnCycleIsSimpleCycleFromLowest': WHATEVER THE INPUT: true; the input reads as it did. -/
def fnCycleIsSimpleCycleFromLowestSpec : ChangeSpec := { name := "fnCycleIsSimpleCycleFromLowest", fn := fun _ => fun
  | [d1, d2] => { results := [.lit (.bool true)], args := [d1, d2] }
  | _ => none }
def fnCycleIsSimpleCycleFromLowestRow : OpenClaim := { program := "qxb6600028a", sum := "a0e81dc3b8e684b6df39521e7d69ccfef9b87132a8515791dcb0c1f5f8b856fb", func := "example.com/verrou/verrou/zzlaws_internal_digraph_b1.FnCycleIsSimpleCycleFromLowest", spec := "fnCycleIsSimpleCycleFromLowest", apart := false }
def FnCycleIsSimpleCycleFromLowestSaid : Prop := fnCycleIsSimpleCycleFromLowestRow.holds Try.pinned (OpenSpec.ofChange fnCycleIsSimpleCycleFromLowestSpec)

/-- ITS FALSE NEIGHBOUR: 'it returns false'. Refute it at one input. -/
def fnCycleIsSimpleCycleFromLowestWrong : ChangeSpec := { name := "fnCycleIsSimpleCycleFromLowest", fn := fun _ => fun
  | [d1, d2] => { results := [.lit (.bool false)], args := [d1, d2] }
  | _ => none }
def FnCycleIsSimpleCycleFromLowestWrongFalsely : Prop := fnCycleIsSimpleCycleFromLowestRow.holds Try.pinned (OpenSpec.ofChange fnCycleIsSimpleCycleFromLowestWrong)

/-- 'zzlaws_internal_digraph_b1.FnCycleIsAShortestReturnToItsStart': WHATEVER THE INPUT: true; the input reads as it did. -/
def fnCycleIsAShortestReturnToItsStartSpec : ChangeSpec := { name := "fnCycleIsAShortestReturnToItsStart", fn := fun _ => fun
  | [d1, d2] => { results := [.lit (.bool true)], args := [d1, d2] }
  | _ => none }
def fnCycleIsAShortestReturnToItsStartRow : OpenClaim := { program := "qxb6600028a", sum := "a0e81dc3b8e684b6df39521e7d69ccfef9b87132a8515791dcb0c1f5f8b856fb", func := "example.com/verrou/verrou/zzlaws_internal_digraph_b1.FnCycleIsAShortestReturnToItsStart", spec := "fnCycleIsAShortestReturnToItsStart", apart := false }
def FnCycleIsAShortestReturnToItsStartSaid : Prop := fnCycleIsAShortestReturnToItsStartRow.holds Try.pinned (OpenSpec.ofChange fnCycleIsAShortestReturnToItsStartSpec)

/-- ITS FALSE NEIGHBOUR: 'it returns false'. Refute it at one input. -/
def fnCycleIsAShortestReturnToItsStartWrong : ChangeSpec := { name := "fnCycleIsAShortestReturnToItsStart", fn := fun _ => fun
  | [d1, d2] => { results := [.lit (.bool false)], args := [d1, d2] }
  | _ => none }
def FnCycleIsAShortestReturnToItsStartWrongFalsely : Prop := fnCycleIsAShortestReturnToItsStartRow.holds Try.pinned (OpenSpec.ofChange fnCycleIsAShortestReturnToItsStartWrong)

/-- 'zzlaws_internal_digraph_b1.FnCycleIsLeastShortestThroughStart': WHATEVER THE INPUT: true; the input reads as it did. -/
def fnCycleIsLeastShortestThroughStartSpec : ChangeSpec := { name := "fnCycleIsLeastShortestThroughStart", fn := fun _ => fun
  | [d1, d2] => { results := [.lit (.bool true)], args := [d1, d2] }
  | _ => none }
def fnCycleIsLeastShortestThroughStartRow : OpenClaim := { program := "qxb6600028a", sum := "a0e81dc3b8e684b6df39521e7d69ccfef9b87132a8515791dcb0c1f5f8b856fb", func := "example.com/verrou/verrou/zzlaws_internal_digraph_b1.FnCycleIsLeastShortestThroughStart", spec := "fnCycleIsLeastShortestThroughStart", apart := false }
def FnCycleIsLeastShortestThroughStartSaid : Prop := fnCycleIsLeastShortestThroughStartRow.holds Try.pinned (OpenSpec.ofChange fnCycleIsLeastShortestThroughStartSpec)

/-- ITS FALSE NEIGHBOUR: 'it returns false'. Refute it at one input. -/
def fnCycleIsLeastShortestThroughStartWrong : ChangeSpec := { name := "fnCycleIsLeastShortestThroughStart", fn := fun _ => fun
  | [d1, d2] => { results := [.lit (.bool false)], args := [d1, d2] }
  | _ => none }
def FnCycleIsLeastShortestThroughStartWrongFalsely : Prop := fnCycleIsLeastShortestThroughStartRow.holds Try.pinned (OpenSpec.ofChange fnCycleIsLeastShortestThroughStartWrong)

end Rows
end Go.Proofs.Qxb6600028a
