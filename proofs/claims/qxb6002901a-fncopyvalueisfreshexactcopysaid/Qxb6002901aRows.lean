/-
  No cell of these rows narrows 'for every input' (looked for: loops, veiled, ifaces, maps, wideKeys, modest, calm, conditions, laid).
  DERIVED. THE GIVEN ROWS OF THIS SEAT. 3 by the template 'for every input the law returns true; each argument reads behind the call as it read before'; 0 by the template 'total and deterministic' (their statements: Qxb6002901aTotals.lean).
  GIVEN WITH THE SEED: the statements are not yours to turn. If you find one false, say at which input.
  Laid BY PROGRAM, IN A SANDBOX (cutbox-rows.mjs): the forced cells as the released guide's own fill.sh prints them over the translation 186c67cb509e2742… (all of the seat's roots in one cut). By AI agents, Wed Nov 11 2026. No macro, syntax, notation, axiom, sorry.
-/
import Derived.Test.Qxb6002901aChecked
import GoSem.Claim
import GoSem.ClaimJoined
import GoSem.ClaimMapViews
import Derived.JoinedTies
import Derived.KernelRfl
namespace Go.Proofs.Qxb6002901a
/- THE CELL 'sum', in the pinned program and in every row, IS THE sha256 OF THE DUMP (.gsa) THAT Qxb6002901aProg.lean LOADS. Nothing in Lean hashes anything: it is a label: what it is worth is what the hold of that sum in a sandbox is worth. -/
noncomputable def Try.pinned : Pinned := { name := "qxb6002901a", sum := "186c67cb509e27423d380e162f2bee24dcb618292aaf0797d8f50ee7697e5729", checked := Try.checked }
namespace Rows
def none {H : Type} : Left H := { results := [], args := [] }

/-- 'zzlaws_root_b1.FnHitRateExact': WHATEVER THE INPUT: true; the input reads as it did. -/
def fnHitRateExactSpec : ChangeSpec := { name := "fnHitRateExact", fn := fun _ => fun
  | [d1, d2, d3, d4, d5, d6] => { results := [.lit (.bool true)], args := [d1, d2, d3, d4, d5, d6] }
  | _ => none }
def fnHitRateExactRow : OpenClaim := { program := "qxb6002901a", sum := "186c67cb509e27423d380e162f2bee24dcb618292aaf0797d8f50ee7697e5729", func := "example.com/ringhold/ringhold/zzlaws_root_b1.FnHitRateExact", spec := "fnHitRateExact", apart := false }
def FnHitRateExactSaid : Prop := fnHitRateExactRow.holds Try.pinned (OpenSpec.ofChange fnHitRateExactSpec)

/-- ITS FALSE NEIGHBOUR: 'it returns false'. Refute it at one input. -/
def fnHitRateExactWrong : ChangeSpec := { name := "fnHitRateExact", fn := fun _ => fun
  | [d1, d2, d3, d4, d5, d6] => { results := [.lit (.bool false)], args := [d1, d2, d3, d4, d5, d6] }
  | _ => none }
def FnHitRateExactWrongFalsely : Prop := fnHitRateExactRow.holds Try.pinned (OpenSpec.ofChange fnHitRateExactWrong)

/-- 'zzlaws_root_b1.FnHitRateScaleAndSign': WHATEVER THE INPUT: true; the input reads as it did. -/
def fnHitRateScaleAndSignSpec : ChangeSpec := { name := "fnHitRateScaleAndSign", fn := fun _ => fun
  | [d1, d2, d3, d4, d5, d6] => { results := [.lit (.bool true)], args := [d1, d2, d3, d4, d5, d6] }
  | _ => none }
def fnHitRateScaleAndSignRow : OpenClaim := { program := "qxb6002901a", sum := "186c67cb509e27423d380e162f2bee24dcb618292aaf0797d8f50ee7697e5729", func := "example.com/ringhold/ringhold/zzlaws_root_b1.FnHitRateScaleAndSign", spec := "fnHitRateScaleAndSign", apart := false }
def FnHitRateScaleAndSignSaid : Prop := fnHitRateScaleAndSignRow.holds Try.pinned (OpenSpec.ofChange fnHitRateScaleAndSignSpec)

/-- ITS FALSE NEIGHBOUR: 'it returns false'. Refute it at one input. -/
def fnHitRateScaleAndSignWrong : ChangeSpec := { name := "fnHitRateScaleAndSign", fn := fun _ => fun
  | [d1, d2, d3, d4, d5, d6] => { results := [.lit (.bool false)], args := [d1, d2, d3, d4, d5, d6] }
  | _ => none }
def FnHitRateScaleAndSignWrongFalsely : Prop := fnHitRateScaleAndSignRow.holds Try.pinned (OpenSpec.ofChange fnHitRateScaleAndSignWrong)

/-- 'zzlaws_root_b1.FnCopyValueIsFreshExactCopy': WHATEVER THE INPUT: true; the input reads as it did. -/
def fnCopyValueIsFreshExactCopySpec : ChangeSpec := { name := "fnCopyValueIsFreshExactCopy", fn := fun _ => fun
  | [d1, d2, d3, d4] => { results := [.lit (.bool true)], args := [d1, d2, d3, d4] }
  | _ => none }
def fnCopyValueIsFreshExactCopyRow : OpenClaim := { program := "qxb6002901a", sum := "186c67cb509e27423d380e162f2bee24dcb618292aaf0797d8f50ee7697e5729", func := "example.com/ringhold/ringhold/zzlaws_root_b1.FnCopyValueIsFreshExactCopy", spec := "fnCopyValueIsFreshExactCopy", apart := false }
def FnCopyValueIsFreshExactCopySaid : Prop := fnCopyValueIsFreshExactCopyRow.holds Try.pinned (OpenSpec.ofChange fnCopyValueIsFreshExactCopySpec)

/-- ITS FALSE NEIGHBOUR: 'it returns false'. Refute it at one input. -/
def fnCopyValueIsFreshExactCopyWrong : ChangeSpec := { name := "fnCopyValueIsFreshExactCopy", fn := fun _ => fun
  | [d1, d2, d3, d4] => { results := [.lit (.bool false)], args := [d1, d2, d3, d4] }
  | _ => none }
def FnCopyValueIsFreshExactCopyWrongFalsely : Prop := fnCopyValueIsFreshExactCopyRow.holds Try.pinned (OpenSpec.ofChange fnCopyValueIsFreshExactCopyWrong)

end Rows
end Go.Proofs.Qxb6002901a
