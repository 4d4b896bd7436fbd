/-
  No cell of these rows narrows 'for every input' (looked for: loops, veiled, ifaces, maps, wideKeys, modest, calm, conditions, laid).
  DERIVED. THE GIVEN ROWS OF THIS SEAT. 4 by the template 'for every input the law returns true; each argument reads behind the call as it read before'; 0 by the template 'total and deterministic' (their statements: Qxb6605895aTotals.lean).
  GIVEN WITH THE SEED: the statements are not yours to turn. If you find one false, say at which input.
  Laid BY PROGRAM, IN A SANDBOX (cutbox-rows.mjs): the forced cells as the released guide's own fill.sh prints them over the translation b8622555bac90a75… (all of the seat's roots in one cut). By AI agents, Wed Nov 11 2026. No macro, syntax, notation, axiom, sorry.
-/
import Derived.Test.Qxb6605895aChecked
import GoSem.Claim
import GoSem.ClaimJoined
import GoSem.ClaimMapViews
import Derived.JoinedTies
import Derived.KernelRfl
namespace Go.Proofs.Qxb6605895a
/- THE CELL 'sum', in the pinned program and in every row, IS THE sha256 OF THE DUMP (.gsa) THAT Qxb6605895aProg.lean LOADS. Nothing in Lean hashes anything: it is a label: what it is worth is what the hold of that sum in a sandbox is worth. -/
noncomputable def Try.pinned : Pinned := { name := "qxb6605895a", sum := "b8622555bac90a750f288c6cd1e98871e30e544fd7731909aded46fb3bb557f5", checked := Try.checked }
namespace Rows
def none {H : Type} : Left H := { results := [], args := [] }

/-- 'zzlaws_chord_b1.FnPartsOfMarksExactlyTheNamedParts': WHATEVER THE INPUT: true; the input reads as it did. -/
def fnPartsOfMarksExactlyTheNamedPartsSpec : ChangeSpec := { name := "fnPartsOfMarksExactlyTheNamedParts", fn := fun _ => fun
  | [d] => { results := [.lit (.bool true)], args := [d] }
  | _ => none }
def fnPartsOfMarksExactlyTheNamedPartsRow : OpenClaim := { program := "qxb6605895a", sum := "b8622555bac90a750f288c6cd1e98871e30e544fd7731909aded46fb3bb557f5", func := "example.com/ringwise/ringwise/zzlaws_chord_b1.FnPartsOfMarksExactlyTheNamedParts", spec := "fnPartsOfMarksExactlyTheNamedParts", plainKeys := false, apart := false }
def FnPartsOfMarksExactlyTheNamedPartsSaid : Prop := fnPartsOfMarksExactlyTheNamedPartsRow.holds Try.pinned (OpenSpec.ofChange fnPartsOfMarksExactlyTheNamedPartsSpec)

/-- ITS FALSE NEIGHBOUR: 'it returns false'. Refute it at one input. -/
def fnPartsOfMarksExactlyTheNamedPartsWrong : ChangeSpec := { name := "fnPartsOfMarksExactlyTheNamedParts", fn := fun _ => fun
  | [d] => { results := [.lit (.bool false)], args := [d] }
  | _ => none }
def FnPartsOfMarksExactlyTheNamedPartsWrongFalsely : Prop := fnPartsOfMarksExactlyTheNamedPartsRow.holds Try.pinned (OpenSpec.ofChange fnPartsOfMarksExactlyTheNamedPartsWrong)

/-- 'zzlaws_chord_b1.FnPartsOfCountsDistinctAndRoundTrips': WHATEVER THE INPUT: true; the input reads as it did. -/
def fnPartsOfCountsDistinctAndRoundTripsSpec : ChangeSpec := { name := "fnPartsOfCountsDistinctAndRoundTrips", fn := fun _ => fun
  | [d] => { results := [.lit (.bool true)], args := [d] }
  | _ => none }
def fnPartsOfCountsDistinctAndRoundTripsRow : OpenClaim := { program := "qxb6605895a", sum := "b8622555bac90a750f288c6cd1e98871e30e544fd7731909aded46fb3bb557f5", func := "example.com/ringwise/ringwise/zzlaws_chord_b1.FnPartsOfCountsDistinctAndRoundTrips", spec := "fnPartsOfCountsDistinctAndRoundTrips", plainKeys := false, apart := false }
def FnPartsOfCountsDistinctAndRoundTripsSaid : Prop := fnPartsOfCountsDistinctAndRoundTripsRow.holds Try.pinned (OpenSpec.ofChange fnPartsOfCountsDistinctAndRoundTripsSpec)

/-- ITS FALSE NEIGHBOUR: 'it returns false'. Refute it at one input. -/
def fnPartsOfCountsDistinctAndRoundTripsWrong : ChangeSpec := { name := "fnPartsOfCountsDistinctAndRoundTrips", fn := fun _ => fun
  | [d] => { results := [.lit (.bool false)], args := [d] }
  | _ => none }
def FnPartsOfCountsDistinctAndRoundTripsWrongFalsely : Prop := fnPartsOfCountsDistinctAndRoundTripsRow.holds Try.pinned (OpenSpec.ofChange fnPartsOfCountsDistinctAndRoundTripsWrong)

/-- 'zzlaws_chord_b1.FnOnArcIsModularDistance': WHATEVER THE INPUT: true; the input reads as it did. -/
def fnOnArcIsModularDistanceSpec : ChangeSpec := { name := "fnOnArcIsModularDistance", fn := fun _ => fun
  | [d1, d2, d3] => { results := [.lit (.bool true)], args := [d1, d2, d3] }
  | _ => none }
def fnOnArcIsModularDistanceRow : OpenClaim := { program := "qxb6605895a", sum := "b8622555bac90a750f288c6cd1e98871e30e544fd7731909aded46fb3bb557f5", func := "example.com/ringwise/ringwise/zzlaws_chord_b1.FnOnArcIsModularDistance", spec := "fnOnArcIsModularDistance", inPlace := ["internal/bytealg.Compare"], plainKeys := false, apart := false }
def FnOnArcIsModularDistanceSaid : Prop := fnOnArcIsModularDistanceRow.holds Try.pinned (OpenSpec.ofChange fnOnArcIsModularDistanceSpec)

/-- ITS FALSE NEIGHBOUR: 'it returns false'. Refute it at one input. -/
def fnOnArcIsModularDistanceWrong : ChangeSpec := { name := "fnOnArcIsModularDistance", fn := fun _ => fun
  | [d1, d2, d3] => { results := [.lit (.bool false)], args := [d1, d2, d3] }
  | _ => none }
def FnOnArcIsModularDistanceWrongFalsely : Prop := fnOnArcIsModularDistanceRow.holds Try.pinned (OpenSpec.ofChange fnOnArcIsModularDistanceWrong)

/-- 'zzlaws_chord_b1.FnOnArcSplitsRingWithPredecessor': WHATEVER THE INPUT: true; the input reads as it did. -/
def fnOnArcSplitsRingWithPredecessorSpec : ChangeSpec := { name := "fnOnArcSplitsRingWithPredecessor", fn := fun _ => fun
  | [d1, d2, d3] => { results := [.lit (.bool true)], args := [d1, d2, d3] }
  | _ => none }
def fnOnArcSplitsRingWithPredecessorRow : OpenClaim := { program := "qxb6605895a", sum := "b8622555bac90a750f288c6cd1e98871e30e544fd7731909aded46fb3bb557f5", func := "example.com/ringwise/ringwise/zzlaws_chord_b1.FnOnArcSplitsRingWithPredecessor", spec := "fnOnArcSplitsRingWithPredecessor", inPlace := ["internal/bytealg.Compare"], plainKeys := false, apart := false }
def FnOnArcSplitsRingWithPredecessorSaid : Prop := fnOnArcSplitsRingWithPredecessorRow.holds Try.pinned (OpenSpec.ofChange fnOnArcSplitsRingWithPredecessorSpec)

/-- ITS FALSE NEIGHBOUR: 'it returns false'. Refute it at one input. -/
def fnOnArcSplitsRingWithPredecessorWrong : ChangeSpec := { name := "fnOnArcSplitsRingWithPredecessor", fn := fun _ => fun
  | [d1, d2, d3] => { results := [.lit (.bool false)], args := [d1, d2, d3] }
  | _ => none }
def FnOnArcSplitsRingWithPredecessorWrongFalsely : Prop := fnOnArcSplitsRingWithPredecessorRow.holds Try.pinned (OpenSpec.ofChange fnOnArcSplitsRingWithPredecessorWrong)

end Rows
end Go.Proofs.Qxb6605895a
