/-
  No cell of these rows narrows 'for every input' (looked for: loops, veiled, ifaces, maps, wideKeys, modest, calm, conditions, laid).
  DERIVED. THE GIVEN ROWS OF THIS SEAT. 2 by the template 'for every input the law returns true; each argument reads behind the call as it read before'; 0 by the template 'total and deterministic' (their statements: Qxb6601152aTotals.lean).
  GIVEN WITH THE SEED: the statements are not yours to turn. If you find one false, say at which input.
  Laid BY PROGRAM, IN A SANDBOX (cutbox-rows.mjs): the forced cells as the released guide's own fill.sh prints them over the translation 6d0868837c7a67c9… (all of the seat's roots in one cut). By AI agents, Wed Nov 11 2026. No macro, syntax, notation, axiom, sorry.
-/
import Derived.Test.Qxb6601152aChecked
import GoSem.Claim
import GoSem.ClaimJoined
import GoSem.ClaimMapViews
import Derived.JoinedTies
import Derived.KernelRfl
namespace Go.Proofs.Qxb6601152a
/- THE CELL 'sum', in the pinned program and in every row, IS THE sha256 OF THE DUMP (.gsa) THAT Qxb6601152aProg.lean LOADS. Nothing in Lean hashes anything: it is a label: what it is worth is what the hold of that sum in a sandbox is worth. -/
noncomputable def Try.pinned : Pinned := { name := "qxb6601152a", sum := "6d0868837c7a67c9c9d25fb9e17809d0421619797685cc4f6cc9bda6eb51637b", checked := Try.checked }
namespace Rows
def none {H : Type} : Left H := { results := [], args := [] }

/-- 'zzlaws_paxos_b1.FnLearnerStepMatchesMajorityOfPrefix': WHATEVER THE INPUT: true; the input reads as it did. -/
def fnLearnerStepMatchesMajorityOfPrefixSpec : ChangeSpec := { name := "fnLearnerStepMatchesMajorityOfPrefix", fn := fun _ => fun
  | [d1, d2] => { results := [.lit (.bool true)], args := [d1, d2] }
  | _ => none }
def fnLearnerStepMatchesMajorityOfPrefixRow : OpenClaim := { program := "qxb6601152a", sum := "6d0868837c7a67c9c9d25fb9e17809d0421619797685cc4f6cc9bda6eb51637b", func := "example.com/concordat/concordat/zzlaws_paxos_b1.FnLearnerStepMatchesMajorityOfPrefix", spec := "fnLearnerStepMatchesMajorityOfPrefix", unfollowed := true, recurses := true, plainKeys := false, apart := false }
def FnLearnerStepMatchesMajorityOfPrefixSaid : Prop := fnLearnerStepMatchesMajorityOfPrefixRow.holds Try.pinned (OpenSpec.ofChange fnLearnerStepMatchesMajorityOfPrefixSpec)

/-- ITS FALSE NEIGHBOUR: 'it returns false'. Refute it at one input. -/
def fnLearnerStepMatchesMajorityOfPrefixWrong : ChangeSpec := { name := "fnLearnerStepMatchesMajorityOfPrefix", fn := fun _ => fun
  | [d1, d2] => { results := [.lit (.bool false)], args := [d1, d2] }
  | _ => none }
def FnLearnerStepMatchesMajorityOfPrefixWrongFalsely : Prop := fnLearnerStepMatchesMajorityOfPrefixRow.holds Try.pinned (OpenSpec.ofChange fnLearnerStepMatchesMajorityOfPrefixWrong)

/-- 'zzlaws_paxos_b1.FnLearnerStepRedeliveryChangesNothing': WHATEVER THE INPUT: true; the input reads as it did. -/
def fnLearnerStepRedeliveryChangesNothingSpec : ChangeSpec := { name := "fnLearnerStepRedeliveryChangesNothing", fn := fun _ => fun
  | [d1, d2] => { results := [.lit (.bool true)], args := [d1, d2] }
  | _ => none }
def fnLearnerStepRedeliveryChangesNothingRow : OpenClaim := { program := "qxb6601152a", sum := "6d0868837c7a67c9c9d25fb9e17809d0421619797685cc4f6cc9bda6eb51637b", func := "example.com/concordat/concordat/zzlaws_paxos_b1.FnLearnerStepRedeliveryChangesNothing", spec := "fnLearnerStepRedeliveryChangesNothing", unfollowed := true, recurses := true, plainKeys := false, apart := false }
def FnLearnerStepRedeliveryChangesNothingSaid : Prop := fnLearnerStepRedeliveryChangesNothingRow.holds Try.pinned (OpenSpec.ofChange fnLearnerStepRedeliveryChangesNothingSpec)

/-- ITS FALSE NEIGHBOUR: 'it returns false'. Refute it at one input. -/
def fnLearnerStepRedeliveryChangesNothingWrong : ChangeSpec := { name := "fnLearnerStepRedeliveryChangesNothing", fn := fun _ => fun
  | [d1, d2] => { results := [.lit (.bool false)], args := [d1, d2] }
  | _ => none }
def FnLearnerStepRedeliveryChangesNothingWrongFalsely : Prop := fnLearnerStepRedeliveryChangesNothingRow.holds Try.pinned (OpenSpec.ofChange fnLearnerStepRedeliveryChangesNothingWrong)

end Rows
end Go.Proofs.Qxb6601152a
