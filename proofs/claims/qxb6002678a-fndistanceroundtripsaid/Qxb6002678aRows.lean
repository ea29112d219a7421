/-
  No cell of these rows narrows 'for every input' (looked for: loops, veiled, ifaces, maps, wideKeys, modest, calm, conditions, laid).
  DERIVED. THE GIVEN ROWS OF THIS SEAT. 7 by the template 'for every input the law returns true; each argument reads behind the call as it read before'; 0 by the template 'total and deterministic' (their statements: Qxb6002678aTotals.lean).
  GIVEN WITH THE SEED: the statements are not yours to turn. If you find one false, say at which input.
  Laid BY PROGRAM, IN A SANDBOX (cutbox-rows.mjs): the forced cells as the released guide's own fill.sh prints them over the translation 5a7b4afa0430a507… (all of the seat's roots in one cut). By AI agents, Wed Nov 11 2026. No macro, syntax, notation, axiom, sorry.
-/
import Derived.Test.Qxb6002678aChecked
import GoSem.Claim
import GoSem.ClaimJoined
import GoSem.ClaimMapViews
import Derived.JoinedTies
import Derived.KernelRfl
namespace Go.Proofs.Qxb6002678a
/- THE CELL 'sum', in the pinned program and in every row, IS THE sha256 OF THE DUMP (.gsa) THAT Qxb6002678aProg.lean LOADS. Nothing in Lean hashes anything: it is a label: what it is worth is what the hold of that sum in a sandbox is worth. -/
noncomputable def Try.pinned : Pinned := { name := "qxb6002678a", sum := "5a7b4afa0430a507bad5c5b01d139798b4d09a3c8ad732e5e3ce4e5dc7dbaaea", checked := Try.checked }
namespace Rows
def none {H : Type} : Left H := { results := [], args := [] }

/-- 'zzlaws_internal_recipe_b1.FnEntryHeaderRoundTrip': WHATEVER THE INPUT: true; the input reads as it did. -/
def fnEntryHeaderRoundTripSpec : ChangeSpec := { name := "fnEntryHeaderRoundTrip", fn := fun _ => fun
  | [d1, d2, d3] => { results := [.lit (.bool true)], args := [d1, d2, d3] }
  | _ => none }
def fnEntryHeaderRoundTripRow : OpenClaim := { program := "qxb6002678a", sum := "5a7b4afa0430a507bad5c5b01d139798b4d09a3c8ad732e5e3ce4e5dc7dbaaea", func := "example.com/packlode/packlode/zzlaws_internal_recipe_b1.FnEntryHeaderRoundTrip", spec := "fnEntryHeaderRoundTrip", apart := false }
def FnEntryHeaderRoundTripSaid : Prop := fnEntryHeaderRoundTripRow.holds Try.pinned (OpenSpec.ofChange fnEntryHeaderRoundTripSpec)

/-- ITS FALSE NEIGHBOUR: 'it returns false'. Refute it at one input. -/
def fnEntryHeaderRoundTripWrong : ChangeSpec := { name := "fnEntryHeaderRoundTrip", fn := fun _ => fun
  | [d1, d2, d3] => { results := [.lit (.bool false)], args := [d1, d2, d3] }
  | _ => none }
def FnEntryHeaderRoundTripWrongFalsely : Prop := fnEntryHeaderRoundTripRow.holds Try.pinned (OpenSpec.ofChange fnEntryHeaderRoundTripWrong)

/-- 'zzlaws_internal_recipe_b1.FnEntryHeaderLengthMonotone': WHATEVER THE INPUT: true; the input reads as it did. -/
def fnEntryHeaderLengthMonotoneSpec : ChangeSpec := { name := "fnEntryHeaderLengthMonotone", fn := fun _ => fun
  | [d1, d2, d3, d4] => { results := [.lit (.bool true)], args := [d1, d2, d3, d4] }
  | _ => none }
def fnEntryHeaderLengthMonotoneRow : OpenClaim := { program := "qxb6002678a", sum := "5a7b4afa0430a507bad5c5b01d139798b4d09a3c8ad732e5e3ce4e5dc7dbaaea", func := "example.com/packlode/packlode/zzlaws_internal_recipe_b1.FnEntryHeaderLengthMonotone", spec := "fnEntryHeaderLengthMonotone", apart := false }
def FnEntryHeaderLengthMonotoneSaid : Prop := fnEntryHeaderLengthMonotoneRow.holds Try.pinned (OpenSpec.ofChange fnEntryHeaderLengthMonotoneSpec)

/-- ITS FALSE NEIGHBOUR: 'it returns false'. Refute it at one input. -/
def fnEntryHeaderLengthMonotoneWrong : ChangeSpec := { name := "fnEntryHeaderLengthMonotone", fn := fun _ => fun
  | [d1, d2, d3, d4] => { results := [.lit (.bool false)], args := [d1, d2, d3, d4] }
  | _ => none }
def FnEntryHeaderLengthMonotoneWrongFalsely : Prop := fnEntryHeaderLengthMonotoneRow.holds Try.pinned (OpenSpec.ofChange fnEntryHeaderLengthMonotoneWrong)

/-- 'zzlaws_internal_recipe_b1.FnEntryHeaderCanonical': WHATEVER THE INPUT: true; the input reads as it did. -/
def fnEntryHeaderCanonicalSpec : ChangeSpec := { name := "fnEntryHeaderCanonical", fn := fun _ => fun
  | [d1, d2] => { results := [.lit (.bool true)], args := [d1, d2] }
  | _ => none }
def fnEntryHeaderCanonicalRow : OpenClaim := { program := "qxb6002678a", sum := "5a7b4afa0430a507bad5c5b01d139798b4d09a3c8ad732e5e3ce4e5dc7dbaaea", func := "example.com/packlode/packlode/zzlaws_internal_recipe_b1.FnEntryHeaderCanonical", spec := "fnEntryHeaderCanonical", apart := false }
def FnEntryHeaderCanonicalSaid : Prop := fnEntryHeaderCanonicalRow.holds Try.pinned (OpenSpec.ofChange fnEntryHeaderCanonicalSpec)

/-- ITS FALSE NEIGHBOUR: 'it returns false'. Refute it at one input. -/
def fnEntryHeaderCanonicalWrong : ChangeSpec := { name := "fnEntryHeaderCanonical", fn := fun _ => fun
  | [d1, d2] => { results := [.lit (.bool false)], args := [d1, d2] }
  | _ => none }
def FnEntryHeaderCanonicalWrongFalsely : Prop := fnEntryHeaderCanonicalRow.holds Try.pinned (OpenSpec.ofChange fnEntryHeaderCanonicalWrong)

/-- 'zzlaws_internal_recipe_b1.FnDistanceRoundTrip': WHATEVER THE INPUT: true; the input reads as it did. -/
def fnDistanceRoundTripSpec : ChangeSpec := { name := "fnDistanceRoundTrip", fn := fun _ => fun
  | [d1, d2] => { results := [.lit (.bool true)], args := [d1, d2] }
  | _ => none }
def fnDistanceRoundTripRow : OpenClaim := { program := "qxb6002678a", sum := "5a7b4afa0430a507bad5c5b01d139798b4d09a3c8ad732e5e3ce4e5dc7dbaaea", func := "example.com/packlode/packlode/zzlaws_internal_recipe_b1.FnDistanceRoundTrip", spec := "fnDistanceRoundTrip", apart := false }
def FnDistanceRoundTripSaid : Prop := fnDistanceRoundTripRow.holds Try.pinned (OpenSpec.ofChange fnDistanceRoundTripSpec)

/-- ITS FALSE NEIGHBOUR: 'it returns false'. Refute it at one input. -/
def fnDistanceRoundTripWrong : ChangeSpec := { name := "fnDistanceRoundTrip", fn := fun _ => fun
  | [d1, d2] => { results := [.lit (.bool false)], args := [d1, d2] }
  | _ => none }
def FnDistanceRoundTripWrongFalsely : Prop := fnDistanceRoundTripRow.holds Try.pinned (OpenSpec.ofChange fnDistanceRoundTripWrong)

/-- 'zzlaws_internal_recipe_b1.FnDistanceShortlexOrder': WHATEVER THE INPUT: true; the input reads as it did. -/
def fnDistanceShortlexOrderSpec : ChangeSpec := { name := "fnDistanceShortlexOrder", fn := fun _ => fun
  | [d1, d2] => { results := [.lit (.bool true)], args := [d1, d2] }
  | _ => none }
def fnDistanceShortlexOrderRow : OpenClaim := { program := "qxb6002678a", sum := "5a7b4afa0430a507bad5c5b01d139798b4d09a3c8ad732e5e3ce4e5dc7dbaaea", func := "example.com/packlode/packlode/zzlaws_internal_recipe_b1.FnDistanceShortlexOrder", spec := "fnDistanceShortlexOrder", apart := false }
def FnDistanceShortlexOrderSaid : Prop := fnDistanceShortlexOrderRow.holds Try.pinned (OpenSpec.ofChange fnDistanceShortlexOrderSpec)

/-- ITS FALSE NEIGHBOUR: 'it returns false'. Refute it at one input. -/
def fnDistanceShortlexOrderWrong : ChangeSpec := { name := "fnDistanceShortlexOrder", fn := fun _ => fun
  | [d1, d2] => { results := [.lit (.bool false)], args := [d1, d2] }
  | _ => none }
def FnDistanceShortlexOrderWrongFalsely : Prop := fnDistanceShortlexOrderRow.holds Try.pinned (OpenSpec.ofChange fnDistanceShortlexOrderWrong)

/-- 'zzlaws_internal_recipe_b1.FnCopyRoundTrip': WHATEVER THE INPUT: true; the input reads as it did. -/
def fnCopyRoundTripSpec : ChangeSpec := { name := "fnCopyRoundTrip", fn := fun _ => fun
  | [d1, d2, d3] => { results := [.lit (.bool true)], args := [d1, d2, d3] }
  | _ => none }
def fnCopyRoundTripRow : OpenClaim := { program := "qxb6002678a", sum := "5a7b4afa0430a507bad5c5b01d139798b4d09a3c8ad732e5e3ce4e5dc7dbaaea", func := "example.com/packlode/packlode/zzlaws_internal_recipe_b1.FnCopyRoundTrip", spec := "fnCopyRoundTrip", apart := false }
def FnCopyRoundTripSaid : Prop := fnCopyRoundTripRow.holds Try.pinned (OpenSpec.ofChange fnCopyRoundTripSpec)

/-- ITS FALSE NEIGHBOUR: 'it returns false'. Refute it at one input. -/
def fnCopyRoundTripWrong : ChangeSpec := { name := "fnCopyRoundTrip", fn := fun _ => fun
  | [d1, d2, d3] => { results := [.lit (.bool false)], args := [d1, d2, d3] }
  | _ => none }
def FnCopyRoundTripWrongFalsely : Prop := fnCopyRoundTripRow.holds Try.pinned (OpenSpec.ofChange fnCopyRoundTripWrong)

/-- 'zzlaws_internal_recipe_b1.FnCopySplitAtChunk': WHATEVER THE INPUT: true; the input reads as it did. -/
def fnCopySplitAtChunkSpec : ChangeSpec := { name := "fnCopySplitAtChunk", fn := fun _ => fun
  | [d1, d2, d3, d4] => { results := [.lit (.bool true)], args := [d1, d2, d3, d4] }
  | _ => none }
def fnCopySplitAtChunkRow : OpenClaim := { program := "qxb6002678a", sum := "5a7b4afa0430a507bad5c5b01d139798b4d09a3c8ad732e5e3ce4e5dc7dbaaea", func := "example.com/packlode/packlode/zzlaws_internal_recipe_b1.FnCopySplitAtChunk", spec := "fnCopySplitAtChunk", apart := false }
def FnCopySplitAtChunkSaid : Prop := fnCopySplitAtChunkRow.holds Try.pinned (OpenSpec.ofChange fnCopySplitAtChunkSpec)

/-- ITS FALSE NEIGHBOUR: 'it returns false'. Refute it at one input. -/
def fnCopySplitAtChunkWrong : ChangeSpec := { name := "fnCopySplitAtChunk", fn := fun _ => fun
  | [d1, d2, d3, d4] => { results := [.lit (.bool false)], args := [d1, d2, d3, d4] }
  | _ => none }
def FnCopySplitAtChunkWrongFalsely : Prop := fnCopySplitAtChunkRow.holds Try.pinned (OpenSpec.ofChange fnCopySplitAtChunkWrong)

end Rows
end Go.Proofs.Qxb6002678a
