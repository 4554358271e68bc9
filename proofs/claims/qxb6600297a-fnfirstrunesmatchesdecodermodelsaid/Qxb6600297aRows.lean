/-
  No cell of these rows narrows 'for every input' (looked for: loops, veiled, ifaces, maps, wideKeys, modest, calm, conditions, laid).
  DERIVED. THE GIVEN ROWS OF THIS SEAT. 3 by the template 'for every input the law returns true; each argument reads behind the call as it read before'; 0 by the template 'total and deterministic' (their statements: Qxb6600297aTotals.lean).
  GIVEN WITH THE SEED: the statements are not yours to turn. If you find one false, say at which input.
  Laid BY PROGRAM, IN A SANDBOX (cutbox-rows.mjs): the forced cells as the released guide's own fill.sh prints them over the translation 8cd69dfcc1249626… (all of the seat's roots in one cut). By AI agents, Wed Nov 11 2026. No macro, syntax, notation, axiom, sorry.
-/
import Derived.Test.Qxb6600297aChecked
import GoSem.Claim
import GoSem.ClaimJoined
import GoSem.ClaimMapViews
import Derived.JoinedTies
import Derived.KernelRfl
namespace Go.Proofs.Qxb6600297a
/- THE CELL 'sum', in the pinned program and in every row, IS THE sha256 OF THE DUMP (.gsa) THAT Qxb6600297aProg.lean LOADS. Nothing in Lean hashes anything: it is a label: what it is worth is what the hold of that sum in a sandbox is worth. -/
noncomputable def Try.pinned : Pinned := { name := "qxb6600297a", sum := "8cd69dfcc1249626ca5094f0137abbd37fbbecc8da18a7c9da7e48d9c4089629", checked := Try.checked }
namespace Rows
def none {H : Type} : Left H := { results := [], args := [] }

/-- 'zzlaws_processor_b1.FnFirstRunesMatchesDecoderModel': WHATEVER THE INPUT: true; the input reads as it did. -/
def fnFirstRunesMatchesDecoderModelSpec : ChangeSpec := { name := "fnFirstRunesMatchesDecoderModel", fn := fun _ => fun
  | [d1, d2] => { results := [.lit (.bool true)], args := [d1, d2] }
  | _ => none }
def fnFirstRunesMatchesDecoderModelRow : OpenClaim := { program := "qxb6600297a", sum := "8cd69dfcc1249626ca5094f0137abbd37fbbecc8da18a7c9da7e48d9c4089629", func := "example.com/anchorbill/anchorbill/zzlaws_processor_b1.FnFirstRunesMatchesDecoderModel", spec := "fnFirstRunesMatchesDecoderModel", apart := false }
def FnFirstRunesMatchesDecoderModelSaid : Prop := fnFirstRunesMatchesDecoderModelRow.holds Try.pinned (OpenSpec.ofChange fnFirstRunesMatchesDecoderModelSpec)

/-- ITS FALSE NEIGHBOUR: 'it returns false'. Refute it at one input. -/
def fnFirstRunesMatchesDecoderModelWrong : ChangeSpec := { name := "fnFirstRunesMatchesDecoderModel", fn := fun _ => fun
  | [d1, d2] => { results := [.lit (.bool false)], args := [d1, d2] }
  | _ => none }
def FnFirstRunesMatchesDecoderModelWrongFalsely : Prop := fnFirstRunesMatchesDecoderModelRow.holds Try.pinned (OpenSpec.ofChange fnFirstRunesMatchesDecoderModelWrong)

/-- 'zzlaws_processor_b1.FnFirstRunesSplitsAtRuneBoundary': WHATEVER THE INPUT: true; the input reads as it did. -/
def fnFirstRunesSplitsAtRuneBoundarySpec : ChangeSpec := { name := "fnFirstRunesSplitsAtRuneBoundary", fn := fun _ => fun
  | [d1, d2, d3] => { results := [.lit (.bool true)], args := [d1, d2, d3] }
  | _ => none }
def fnFirstRunesSplitsAtRuneBoundaryRow : OpenClaim := { program := "qxb6600297a", sum := "8cd69dfcc1249626ca5094f0137abbd37fbbecc8da18a7c9da7e48d9c4089629", func := "example.com/anchorbill/anchorbill/zzlaws_processor_b1.FnFirstRunesSplitsAtRuneBoundary", spec := "fnFirstRunesSplitsAtRuneBoundary", apart := false }
def FnFirstRunesSplitsAtRuneBoundarySaid : Prop := fnFirstRunesSplitsAtRuneBoundaryRow.holds Try.pinned (OpenSpec.ofChange fnFirstRunesSplitsAtRuneBoundarySpec)

/-- ITS FALSE NEIGHBOUR: 'it returns false'. Refute it at one input. -/
def fnFirstRunesSplitsAtRuneBoundaryWrong : ChangeSpec := { name := "fnFirstRunesSplitsAtRuneBoundary", fn := fun _ => fun
  | [d1, d2, d3] => { results := [.lit (.bool false)], args := [d1, d2, d3] }
  | _ => none }
def FnFirstRunesSplitsAtRuneBoundaryWrongFalsely : Prop := fnFirstRunesSplitsAtRuneBoundaryRow.holds Try.pinned (OpenSpec.ofChange fnFirstRunesSplitsAtRuneBoundaryWrong)

/-- 'zzlaws_processor_b1.FnFirstRunesGrowsOneCharAtATime': WHATEVER THE INPUT: true; the input reads as it did. -/
def fnFirstRunesGrowsOneCharAtATimeSpec : ChangeSpec := { name := "fnFirstRunesGrowsOneCharAtATime", fn := fun _ => fun
  | [d1, d2] => { results := [.lit (.bool true)], args := [d1, d2] }
  | _ => none }
def fnFirstRunesGrowsOneCharAtATimeRow : OpenClaim := { program := "qxb6600297a", sum := "8cd69dfcc1249626ca5094f0137abbd37fbbecc8da18a7c9da7e48d9c4089629", func := "example.com/anchorbill/anchorbill/zzlaws_processor_b1.FnFirstRunesGrowsOneCharAtATime", spec := "fnFirstRunesGrowsOneCharAtATime", apart := false }
def FnFirstRunesGrowsOneCharAtATimeSaid : Prop := fnFirstRunesGrowsOneCharAtATimeRow.holds Try.pinned (OpenSpec.ofChange fnFirstRunesGrowsOneCharAtATimeSpec)

/-- ITS FALSE NEIGHBOUR: 'it returns false'. Refute it at one input. -/
def fnFirstRunesGrowsOneCharAtATimeWrong : ChangeSpec := { name := "fnFirstRunesGrowsOneCharAtATime", fn := fun _ => fun
  | [d1, d2] => { results := [.lit (.bool false)], args := [d1, d2] }
  | _ => none }
def FnFirstRunesGrowsOneCharAtATimeWrongFalsely : Prop := fnFirstRunesGrowsOneCharAtATimeRow.holds Try.pinned (OpenSpec.ofChange fnFirstRunesGrowsOneCharAtATimeWrong)

end Rows
end Go.Proofs.Qxb6600297a
