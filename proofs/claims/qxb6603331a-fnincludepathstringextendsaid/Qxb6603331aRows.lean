/-
  No cell of these rows narrows 'for every input' (looked for: loops, veiled, ifaces, maps, wideKeys, modest, calm, conditions, laid).
  DERIVED. THE GIVEN ROWS OF THIS SEAT. 7 by the template 'for every input the law returns true; each argument reads behind the call as it read before'; 0 by the template 'total and deterministic' (their statements: Qxb6603331aTotals.lean).
  GIVEN WITH THE SEED: the statements are not yours to turn. If you find one false, say at which input.
  Laid BY PROGRAM, IN A SANDBOX (cutbox-rows.mjs): the forced cells as the released guide's own fill.sh prints them over the translation 0a758b45e72ad4af… (all of the seat's roots in one cut). By AI agents, Wed Nov 11 2026. No macro, syntax, notation, axiom, sorry.
-/
import Derived.Test.Qxb6603331aChecked
import GoSem.Claim
import GoSem.ClaimJoined
import GoSem.ClaimMapViews
import Derived.JoinedTies
import Derived.KernelRfl
namespace Go.Proofs.Qxb6603331a
/- THE CELL 'sum', in the pinned program and in every row, IS THE sha256 OF THE DUMP (.gsa) THAT Qxb6603331aProg.lean LOADS. Nothing in Lean hashes anything: it is a label: what it is worth is what the hold of that sum in a sandbox is worth. -/
noncomputable def Try.pinned : Pinned := { name := "qxb6603331a", sum := "0a758b45e72ad4af9e9bf39b935eda57839188ff183b2f5063e27d5239c601ce", checked := Try.checked }
namespace Rows
def none {H : Type} : Left H := { results := [], args := [] }

/-- 'zzlaws_compose_b1.FnAppendStringStrictRoundTrip': WHATEVER THE INPUT: true; the input reads as it did. -/
def fnAppendStringStrictRoundTripSpec : ChangeSpec := { name := "fnAppendStringStrictRoundTrip", fn := fun _ => fun
  | [d1, d2] => { results := [.lit (.bool true)], args := [d1, d2] }
  | _ => none }
def fnAppendStringStrictRoundTripRow : OpenClaim := { program := "qxb6603331a", sum := "0a758b45e72ad4af9e9bf39b935eda57839188ff183b2f5063e27d5239c601ce", func := "example.com/arachne/arachne/zzlaws_compose_b1.FnAppendStringStrictRoundTrip", spec := "fnAppendStringStrictRoundTrip", apart := false }
def FnAppendStringStrictRoundTripSaid : Prop := fnAppendStringStrictRoundTripRow.holds Try.pinned (OpenSpec.ofChange fnAppendStringStrictRoundTripSpec)

/-- ITS FALSE NEIGHBOUR: 'it returns false'. Refute it at one input. -/
def fnAppendStringStrictRoundTripWrong : ChangeSpec := { name := "fnAppendStringStrictRoundTrip", fn := fun _ => fun
  | [d1, d2] => { results := [.lit (.bool false)], args := [d1, d2] }
  | _ => none }
def FnAppendStringStrictRoundTripWrongFalsely : Prop := fnAppendStringStrictRoundTripRow.holds Try.pinned (OpenSpec.ofChange fnAppendStringStrictRoundTripWrong)

/-- 'zzlaws_compose_b1.FnAppendStringSplits': WHATEVER THE INPUT: true; the input reads as it did. -/
def fnAppendStringSplitsSpec : ChangeSpec := { name := "fnAppendStringSplits", fn := fun _ => fun
  | [d1, d2, d3] => { results := [.lit (.bool true)], args := [d1, d2, d3] }
  | _ => none }
def fnAppendStringSplitsRow : OpenClaim := { program := "qxb6603331a", sum := "0a758b45e72ad4af9e9bf39b935eda57839188ff183b2f5063e27d5239c601ce", func := "example.com/arachne/arachne/zzlaws_compose_b1.FnAppendStringSplits", spec := "fnAppendStringSplits", apart := false }
def FnAppendStringSplitsSaid : Prop := fnAppendStringSplitsRow.holds Try.pinned (OpenSpec.ofChange fnAppendStringSplitsSpec)

/-- ITS FALSE NEIGHBOUR: 'it returns false'. Refute it at one input. -/
def fnAppendStringSplitsWrong : ChangeSpec := { name := "fnAppendStringSplits", fn := fun _ => fun
  | [d1, d2, d3] => { results := [.lit (.bool false)], args := [d1, d2, d3] }
  | _ => none }
def FnAppendStringSplitsWrongFalsely : Prop := fnAppendStringSplitsRow.holds Try.pinned (OpenSpec.ofChange fnAppendStringSplitsWrong)

/-- 'zzlaws_compose_b1.FnAppendStringLengthBounds': WHATEVER THE INPUT: true; the input reads as it did. -/
def fnAppendStringLengthBoundsSpec : ChangeSpec := { name := "fnAppendStringLengthBounds", fn := fun _ => fun
  | [d1, d2] => { results := [.lit (.bool true)], args := [d1, d2] }
  | _ => none }
def fnAppendStringLengthBoundsRow : OpenClaim := { program := "qxb6603331a", sum := "0a758b45e72ad4af9e9bf39b935eda57839188ff183b2f5063e27d5239c601ce", func := "example.com/arachne/arachne/zzlaws_compose_b1.FnAppendStringLengthBounds", spec := "fnAppendStringLengthBounds", apart := false }
def FnAppendStringLengthBoundsSaid : Prop := fnAppendStringLengthBoundsRow.holds Try.pinned (OpenSpec.ofChange fnAppendStringLengthBoundsSpec)

/-- ITS FALSE NEIGHBOUR: 'it returns false'. Refute it at one input. -/
def fnAppendStringLengthBoundsWrong : ChangeSpec := { name := "fnAppendStringLengthBounds", fn := fun _ => fun
  | [d1, d2] => { results := [.lit (.bool false)], args := [d1, d2] }
  | _ => none }
def FnAppendStringLengthBoundsWrongFalsely : Prop := fnAppendStringLengthBoundsRow.holds Try.pinned (OpenSpec.ofChange fnAppendStringLengthBoundsWrong)

/-- 'zzlaws_compose_b1.FnIncludePathStringSpec': WHATEVER THE INPUT: true; the input reads as it did. -/
def fnIncludePathStringSpecSpec : ChangeSpec := { name := "fnIncludePathStringSpec", fn := fun _ => fun
  | [d] => { results := [.lit (.bool true)], args := [d] }
  | _ => none }
def fnIncludePathStringSpecRow : OpenClaim := { program := "qxb6603331a", sum := "0a758b45e72ad4af9e9bf39b935eda57839188ff183b2f5063e27d5239c601ce", func := "example.com/arachne/arachne/zzlaws_compose_b1.FnIncludePathStringSpec", spec := "fnIncludePathStringSpec", inPlace := ["internal/abi.NoEscape", "internal/bytealg.MakeNoZero"], apart := false }
def FnIncludePathStringSpecSaid : Prop := fnIncludePathStringSpecRow.holds Try.pinned (OpenSpec.ofChange fnIncludePathStringSpecSpec)

/-- ITS FALSE NEIGHBOUR: 'it returns false'. Refute it at one input. -/
def fnIncludePathStringSpecWrong : ChangeSpec := { name := "fnIncludePathStringSpec", fn := fun _ => fun
  | [d] => { results := [.lit (.bool false)], args := [d] }
  | _ => none }
def FnIncludePathStringSpecWrongFalsely : Prop := fnIncludePathStringSpecRow.holds Try.pinned (OpenSpec.ofChange fnIncludePathStringSpecWrong)

/-- 'zzlaws_compose_b1.FnIncludePathStringExtend': WHATEVER THE INPUT: true; the input reads as it did. -/
def fnIncludePathStringExtendSpec : ChangeSpec := { name := "fnIncludePathStringExtend", fn := fun _ => fun
  | [d1, d2, d3] => { results := [.lit (.bool true)], args := [d1, d2, d3] }
  | _ => none }
def fnIncludePathStringExtendRow : OpenClaim := { program := "qxb6603331a", sum := "0a758b45e72ad4af9e9bf39b935eda57839188ff183b2f5063e27d5239c601ce", func := "example.com/arachne/arachne/zzlaws_compose_b1.FnIncludePathStringExtend", spec := "fnIncludePathStringExtend", inPlace := ["internal/abi.NoEscape", "internal/bytealg.MakeNoZero"], apart := false }
def FnIncludePathStringExtendSaid : Prop := fnIncludePathStringExtendRow.holds Try.pinned (OpenSpec.ofChange fnIncludePathStringExtendSpec)

/-- ITS FALSE NEIGHBOUR: 'it returns false'. Refute it at one input. -/
def fnIncludePathStringExtendWrong : ChangeSpec := { name := "fnIncludePathStringExtend", fn := fun _ => fun
  | [d1, d2, d3] => { results := [.lit (.bool false)], args := [d1, d2, d3] }
  | _ => none }
def FnIncludePathStringExtendWrongFalsely : Prop := fnIncludePathStringExtendRow.holds Try.pinned (OpenSpec.ofChange fnIncludePathStringExtendWrong)

/-- 'zzlaws_compose_b1.FnSizeAddOrderFree': WHATEVER THE INPUT: true; the input reads as it did. -/
def fnSizeAddOrderFreeSpec : ChangeSpec := { name := "fnSizeAddOrderFree", fn := fun _ => fun
  | [d1, d2, d3, d4, d5, d6] => { results := [.lit (.bool true)], args := [d1, d2, d3, d4, d5, d6] }
  | _ => none }
def fnSizeAddOrderFreeRow : OpenClaim := { program := "qxb6603331a", sum := "0a758b45e72ad4af9e9bf39b935eda57839188ff183b2f5063e27d5239c601ce", func := "example.com/arachne/arachne/zzlaws_compose_b1.FnSizeAddOrderFree", spec := "fnSizeAddOrderFree", apart := false }
def FnSizeAddOrderFreeSaid : Prop := fnSizeAddOrderFreeRow.holds Try.pinned (OpenSpec.ofChange fnSizeAddOrderFreeSpec)

/-- ITS FALSE NEIGHBOUR: 'it returns false'. Refute it at one input. -/
def fnSizeAddOrderFreeWrong : ChangeSpec := { name := "fnSizeAddOrderFree", fn := fun _ => fun
  | [d1, d2, d3, d4, d5, d6] => { results := [.lit (.bool false)], args := [d1, d2, d3, d4, d5, d6] }
  | _ => none }
def FnSizeAddOrderFreeWrongFalsely : Prop := fnSizeAddOrderFreeRow.holds Try.pinned (OpenSpec.ofChange fnSizeAddOrderFreeWrong)

/-- 'zzlaws_compose_b1.FnSizeAddScript': WHATEVER THE INPUT: true; the input reads as it did. -/
def fnSizeAddScriptSpec : ChangeSpec := { name := "fnSizeAddScript", fn := fun _ => fun
  | [d] => { results := [.lit (.bool true)], args := [d] }
  | _ => none }
def fnSizeAddScriptRow : OpenClaim := { program := "qxb6603331a", sum := "0a758b45e72ad4af9e9bf39b935eda57839188ff183b2f5063e27d5239c601ce", func := "example.com/arachne/arachne/zzlaws_compose_b1.FnSizeAddScript", spec := "fnSizeAddScript", apart := false }
def FnSizeAddScriptSaid : Prop := fnSizeAddScriptRow.holds Try.pinned (OpenSpec.ofChange fnSizeAddScriptSpec)

/-- ITS FALSE NEIGHBOUR: 'it returns false'. Refute it at one input. -/
def fnSizeAddScriptWrong : ChangeSpec := { name := "fnSizeAddScript", fn := fun _ => fun
  | [d] => { results := [.lit (.bool false)], args := [d] }
  | _ => none }
def FnSizeAddScriptWrongFalsely : Prop := fnSizeAddScriptRow.holds Try.pinned (OpenSpec.ofChange fnSizeAddScriptWrong)

end Rows
end Go.Proofs.Qxb6603331a
