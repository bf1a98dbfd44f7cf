/-
  No cell of these rows narrows 'for every input' (looked for: loops, veiled, ifaces, maps, wideKeys, modest, calm, conditions, laid).
  DERIVED. THE GIVEN ROWS OF THIS SEAT. 6 by the template 'for every input the law returns true; each argument reads behind the call as it read before'; 0 by the template 'total and deterministic' (their statements: Qxb6603404aTotals.lean).
  GIVEN WITH THE SEED: the statements are not yours to turn. If you find one false, say at which input.
  Laid BY PROGRAM, IN A SANDBOX (cutbox-rows.mjs): the forced cells as the released guide's own fill.sh prints them over the translation 6fdcc18c5565c46d… (all of the seat's roots in one cut). By AI agents, Wed Nov 11 2026. No macro, syntax, notation, axiom, sorry.
-/
import Derived.Test.Qxb6603404aChecked
import GoSem.Claim
import GoSem.ClaimJoined
import GoSem.ClaimMapViews
import Derived.JoinedTies
import Derived.KernelRfl
namespace Go.Proofs.Qxb6603404a
/- THE CELL 'sum', in the pinned program and in every row, IS THE sha256 OF THE DUMP (.gsa) THAT Qxb6603404aProg.lean LOADS. Nothing in Lean hashes anything: it is a label: what it is worth is what the hold of that sum in a sandbox is worth. -/
noncomputable def Try.pinned : Pinned := { name := "qxb6603404a", sum := "6fdcc18c5565c46d5817424389d9eb1e2bd4df08db019d5593a9ea4e2387007e", checked := Try.checked }
namespace Rows
def none {H : Type} : Left H := { results := [], args := [] }

/-- 'zzlaws_internal_input_b1.FnPlainLineStopsAtFirstStopper': WHATEVER THE INPUT: true; the input reads as it did. -/
def fnPlainLineStopsAtFirstStopperSpec : ChangeSpec := { name := "fnPlainLineStopsAtFirstStopper", fn := fun _ => fun
  | [d1, d2, d3, d4, d5, d6, d7] => { results := [.lit (.bool true)], args := [d1, d2, d3, d4, d5, d6, d7] }
  | _ => none }
def fnPlainLineStopsAtFirstStopperRow : OpenClaim := { program := "qxb6603404a", sum := "6fdcc18c5565c46d5817424389d9eb1e2bd4df08db019d5593a9ea4e2387007e", func := "example.com/tuoguan/tuoguan/zzlaws_internal_input_b1.FnPlainLineStopsAtFirstStopper", spec := "fnPlainLineStopsAtFirstStopper", apart := false }
def FnPlainLineStopsAtFirstStopperSaid : Prop := fnPlainLineStopsAtFirstStopperRow.holds Try.pinned (OpenSpec.ofChange fnPlainLineStopsAtFirstStopperSpec)

/-- ITS FALSE NEIGHBOUR: 'it returns false'. Refute it at one input. -/
def fnPlainLineStopsAtFirstStopperWrong : ChangeSpec := { name := "fnPlainLineStopsAtFirstStopper", fn := fun _ => fun
  | [d1, d2, d3, d4, d5, d6, d7] => { results := [.lit (.bool false)], args := [d1, d2, d3, d4, d5, d6, d7] }
  | _ => none }
def FnPlainLineStopsAtFirstStopperWrongFalsely : Prop := fnPlainLineStopsAtFirstStopperRow.holds Try.pinned (OpenSpec.ofChange fnPlainLineStopsAtFirstStopperWrong)

/-- 'zzlaws_internal_input_b1.FnPlainLineFlowStopsNoLater': WHATEVER THE INPUT: true; the input reads as it did. -/
def fnPlainLineFlowStopsNoLaterSpec : ChangeSpec := { name := "fnPlainLineFlowStopsNoLater", fn := fun _ => fun
  | [d1, d2, d3, d4, d5, d6] => { results := [.lit (.bool true)], args := [d1, d2, d3, d4, d5, d6] }
  | _ => none }
def fnPlainLineFlowStopsNoLaterRow : OpenClaim := { program := "qxb6603404a", sum := "6fdcc18c5565c46d5817424389d9eb1e2bd4df08db019d5593a9ea4e2387007e", func := "example.com/tuoguan/tuoguan/zzlaws_internal_input_b1.FnPlainLineFlowStopsNoLater", spec := "fnPlainLineFlowStopsNoLater", apart := false }
def FnPlainLineFlowStopsNoLaterSaid : Prop := fnPlainLineFlowStopsNoLaterRow.holds Try.pinned (OpenSpec.ofChange fnPlainLineFlowStopsNoLaterSpec)

/-- ITS FALSE NEIGHBOUR: 'it returns false'. Refute it at one input. -/
def fnPlainLineFlowStopsNoLaterWrong : ChangeSpec := { name := "fnPlainLineFlowStopsNoLater", fn := fun _ => fun
  | [d1, d2, d3, d4, d5, d6] => { results := [.lit (.bool false)], args := [d1, d2, d3, d4, d5, d6] }
  | _ => none }
def FnPlainLineFlowStopsNoLaterWrongFalsely : Prop := fnPlainLineFlowStopsNoLaterRow.holds Try.pinned (OpenSpec.ofChange fnPlainLineFlowStopsNoLaterWrong)

/-- 'zzlaws_internal_input_b1.FnPlainLineLooksOnlyAhead': WHATEVER THE INPUT: true; the input reads as it did. -/
def fnPlainLineLooksOnlyAheadSpec : ChangeSpec := { name := "fnPlainLineLooksOnlyAhead", fn := fun _ => fun
  | [d1, d2, d3, d4, d5, d6, d7] => { results := [.lit (.bool true)], args := [d1, d2, d3, d4, d5, d6, d7] }
  | _ => none }
def fnPlainLineLooksOnlyAheadRow : OpenClaim := { program := "qxb6603404a", sum := "6fdcc18c5565c46d5817424389d9eb1e2bd4df08db019d5593a9ea4e2387007e", func := "example.com/tuoguan/tuoguan/zzlaws_internal_input_b1.FnPlainLineLooksOnlyAhead", spec := "fnPlainLineLooksOnlyAhead", apart := false }
def FnPlainLineLooksOnlyAheadSaid : Prop := fnPlainLineLooksOnlyAheadRow.holds Try.pinned (OpenSpec.ofChange fnPlainLineLooksOnlyAheadSpec)

/-- ITS FALSE NEIGHBOUR: 'it returns false'. Refute it at one input. -/
def fnPlainLineLooksOnlyAheadWrong : ChangeSpec := { name := "fnPlainLineLooksOnlyAhead", fn := fun _ => fun
  | [d1, d2, d3, d4, d5, d6, d7] => { results := [.lit (.bool false)], args := [d1, d2, d3, d4, d5, d6, d7] }
  | _ => none }
def FnPlainLineLooksOnlyAheadWrongFalsely : Prop := fnPlainLineLooksOnlyAheadRow.holds Try.pinned (OpenSpec.ofChange fnPlainLineLooksOnlyAheadWrong)

/-- 'zzlaws_internal_input_b1.FnDescribeTellsKindsApart': WHATEVER THE INPUT: true; the input reads as it did. -/
def fnDescribeTellsKindsApartSpec : ChangeSpec := { name := "fnDescribeTellsKindsApart", fn := fun _ => fun
  | [d1, d2] => { results := [.lit (.bool true)], args := [d1, d2] }
  | _ => none }
def fnDescribeTellsKindsApartRow : OpenClaim := { program := "qxb6603404a", sum := "6fdcc18c5565c46d5817424389d9eb1e2bd4df08db019d5593a9ea4e2387007e", func := "example.com/tuoguan/tuoguan/zzlaws_internal_input_b1.FnDescribeTellsKindsApart", spec := "fnDescribeTellsKindsApart", apart := false }
def FnDescribeTellsKindsApartSaid : Prop := fnDescribeTellsKindsApartRow.holds Try.pinned (OpenSpec.ofChange fnDescribeTellsKindsApartSpec)

/-- ITS FALSE NEIGHBOUR: 'it returns false'. Refute it at one input. -/
def fnDescribeTellsKindsApartWrong : ChangeSpec := { name := "fnDescribeTellsKindsApart", fn := fun _ => fun
  | [d1, d2] => { results := [.lit (.bool false)], args := [d1, d2] }
  | _ => none }
def FnDescribeTellsKindsApartWrongFalsely : Prop := fnDescribeTellsKindsApartRow.holds Try.pinned (OpenSpec.ofChange fnDescribeTellsKindsApartWrong)

/-- 'zzlaws_internal_input_b1.FnContinuationMatchesLineModel': WHATEVER THE INPUT: true; the input reads as it did. -/
def fnContinuationMatchesLineModelSpec : ChangeSpec := { name := "fnContinuationMatchesLineModel", fn := fun _ => fun
  | [d1, d2, d3, d4, d5, d6, d7] => { results := [.lit (.bool true)], args := [d1, d2, d3, d4, d5, d6, d7] }
  | _ => none }
def fnContinuationMatchesLineModelRow : OpenClaim := { program := "qxb6603404a", sum := "6fdcc18c5565c46d5817424389d9eb1e2bd4df08db019d5593a9ea4e2387007e", func := "example.com/tuoguan/tuoguan/zzlaws_internal_input_b1.FnContinuationMatchesLineModel", spec := "fnContinuationMatchesLineModel", inPlace := ["internal/bytealg.CountString", "internal/bytealg.IndexByteString", "internal/bytealg.IndexString"], named := ["internal/bytealg.MaxLen"], apart := false }
def FnContinuationMatchesLineModelSaid : Prop := fnContinuationMatchesLineModelRow.holds Try.pinned (OpenSpec.ofChange fnContinuationMatchesLineModelSpec)

/-- ITS FALSE NEIGHBOUR: 'it returns false'. Refute it at one input. -/
def fnContinuationMatchesLineModelWrong : ChangeSpec := { name := "fnContinuationMatchesLineModel", fn := fun _ => fun
  | [d1, d2, d3, d4, d5, d6, d7] => { results := [.lit (.bool false)], args := [d1, d2, d3, d4, d5, d6, d7] }
  | _ => none }
def FnContinuationMatchesLineModelWrongFalsely : Prop := fnContinuationMatchesLineModelRow.holds Try.pinned (OpenSpec.ofChange fnContinuationMatchesLineModelWrong)

/-- 'zzlaws_internal_input_b1.FnContinuationCountsLinesAndMovesOnce': WHATEVER THE INPUT: true; the input reads as it did. -/
def fnContinuationCountsLinesAndMovesOnceSpec : ChangeSpec := { name := "fnContinuationCountsLinesAndMovesOnce", fn := fun _ => fun
  | [d1, d2, d3, d4, d5, d6, d7] => { results := [.lit (.bool true)], args := [d1, d2, d3, d4, d5, d6, d7] }
  | _ => none }
def fnContinuationCountsLinesAndMovesOnceRow : OpenClaim := { program := "qxb6603404a", sum := "6fdcc18c5565c46d5817424389d9eb1e2bd4df08db019d5593a9ea4e2387007e", func := "example.com/tuoguan/tuoguan/zzlaws_internal_input_b1.FnContinuationCountsLinesAndMovesOnce", spec := "fnContinuationCountsLinesAndMovesOnce", inPlace := ["internal/bytealg.CountString", "internal/bytealg.IndexByteString", "internal/bytealg.IndexString"], named := ["internal/bytealg.MaxLen"], apart := false }
def FnContinuationCountsLinesAndMovesOnceSaid : Prop := fnContinuationCountsLinesAndMovesOnceRow.holds Try.pinned (OpenSpec.ofChange fnContinuationCountsLinesAndMovesOnceSpec)

/-- ITS FALSE NEIGHBOUR: 'it returns false'. Refute it at one input. -/
def fnContinuationCountsLinesAndMovesOnceWrong : ChangeSpec := { name := "fnContinuationCountsLinesAndMovesOnce", fn := fun _ => fun
  | [d1, d2, d3, d4, d5, d6, d7] => { results := [.lit (.bool false)], args := [d1, d2, d3, d4, d5, d6, d7] }
  | _ => none }
def FnContinuationCountsLinesAndMovesOnceWrongFalsely : Prop := fnContinuationCountsLinesAndMovesOnceRow.holds Try.pinned (OpenSpec.ofChange fnContinuationCountsLinesAndMovesOnceWrong)

end Rows
end Go.Proofs.Qxb6603404a
