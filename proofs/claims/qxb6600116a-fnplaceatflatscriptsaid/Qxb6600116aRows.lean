/-
  No cell of these rows narrows 'for every input' (looked for: loops, veiled, ifaces, maps, wideKeys, modest, calm, conditions, laid).
  DERIVED. THE GIVEN ROWS OF THIS SEAT. 4 by the template 'for every input the law returns true; each argument reads behind the call as it read before'; 0 by the template 'total and deterministic' (their statements: Qxb6600116aTotals.lean).
  GIVEN WITH THE SEED: the statements are not yours to turn. If you find one false, say at which input.
  Laid BY PROGRAM, IN A SANDBOX (cutbox-rows.mjs): the forced cells as the released guide's own fill.sh prints them over the translation 7e2edc78e532d02e… (all of the seat's roots in one cut). By AI agents, Wed Nov 11 2026. No macro, syntax, notation, axiom, sorry.
-/
import Derived.Test.Qxb6600116aChecked
import GoSem.Claim
import GoSem.ClaimJoined
import GoSem.ClaimMapViews
import Derived.JoinedTies
import Derived.KernelRfl
namespace Go.Proofs.Qxb6600116a
/- THE CELL 'sum', in the pinned program and in every row, IS THE sha256 OF THE DUMP (.gsa) THAT Qxb6600116aProg.lean LOADS. Nothing in Lean hashes anything: it is a label: what it is worth is what the hold of that sum in a sandbox is worth. -/
noncomputable def Try.pinned : Pinned := { name := "qxb6600116a", sum := "7e2edc78e532d02e347697a536f97b7209f2cb722b01c53bbb56e59a4d7abd9d", checked := Try.checked }
namespace Rows
def none {H : Type} : Left H := { results := [], args := [] }

/-- 'zzlaws_internal_plan_b1.FnIsDigitsConcat': WHATEVER THE INPUT: true; the input reads as it did. -/
def fnIsDigitsConcatSpec : ChangeSpec := { name := "fnIsDigitsConcat", fn := fun _ => fun
  | [d1, d2] => { results := [.lit (.bool true)], args := [d1, d2] }
  | _ => none }
def fnIsDigitsConcatRow : OpenClaim := { program := "qxb6600116a", sum := "7e2edc78e532d02e347697a536f97b7209f2cb722b01c53bbb56e59a4d7abd9d", func := "example.com/vestwright/vestwright/zzlaws_internal_plan_b1.FnIsDigitsConcat", spec := "fnIsDigitsConcat", apart := false }
def FnIsDigitsConcatSaid : Prop := fnIsDigitsConcatRow.holds Try.pinned (OpenSpec.ofChange fnIsDigitsConcatSpec)

/-- ITS FALSE NEIGHBOUR: 'it returns false'. Refute it at one input. -/
def fnIsDigitsConcatWrong : ChangeSpec := { name := "fnIsDigitsConcat", fn := fun _ => fun
  | [d1, d2] => { results := [.lit (.bool false)], args := [d1, d2] }
  | _ => none }
def FnIsDigitsConcatWrongFalsely : Prop := fnIsDigitsConcatRow.holds Try.pinned (OpenSpec.ofChange fnIsDigitsConcatWrong)

/-- 'zzlaws_internal_plan_b1.FnIsDigitsDecimalWithOneByte': WHATEVER THE INPUT: true; the input reads as it did. -/
def fnIsDigitsDecimalWithOneByteSpec : ChangeSpec := { name := "fnIsDigitsDecimalWithOneByte", fn := fun _ => fun
  | [d1, d2, d3] => { results := [.lit (.bool true)], args := [d1, d2, d3] }
  | _ => none }
def fnIsDigitsDecimalWithOneByteRow : OpenClaim := { program := "qxb6600116a", sum := "7e2edc78e532d02e347697a536f97b7209f2cb722b01c53bbb56e59a4d7abd9d", func := "example.com/vestwright/vestwright/zzlaws_internal_plan_b1.FnIsDigitsDecimalWithOneByte", spec := "fnIsDigitsDecimalWithOneByte", apart := false }
def FnIsDigitsDecimalWithOneByteSaid : Prop := fnIsDigitsDecimalWithOneByteRow.holds Try.pinned (OpenSpec.ofChange fnIsDigitsDecimalWithOneByteSpec)

/-- ITS FALSE NEIGHBOUR: 'it returns false'. Refute it at one input. -/
def fnIsDigitsDecimalWithOneByteWrong : ChangeSpec := { name := "fnIsDigitsDecimalWithOneByte", fn := fun _ => fun
  | [d1, d2, d3] => { results := [.lit (.bool false)], args := [d1, d2, d3] }
  | _ => none }
def FnIsDigitsDecimalWithOneByteWrongFalsely : Prop := fnIsDigitsDecimalWithOneByteRow.holds Try.pinned (OpenSpec.ofChange fnIsDigitsDecimalWithOneByteWrong)

/-- 'zzlaws_internal_plan_b1.FnPlaceAtPath': WHATEVER THE INPUT: true; the input reads as it did. -/
def fnPlaceAtPathSpec : ChangeSpec := { name := "fnPlaceAtPath", fn := fun _ => fun
  | [d] => { results := [.lit (.bool true)], args := [d] }
  | _ => none }
def fnPlaceAtPathRow : OpenClaim := { program := "qxb6600116a", sum := "7e2edc78e532d02e347697a536f97b7209f2cb722b01c53bbb56e59a4d7abd9d", func := "example.com/vestwright/vestwright/zzlaws_internal_plan_b1.FnPlaceAtPath", spec := "fnPlaceAtPath", apart := false }
def FnPlaceAtPathSaid : Prop := fnPlaceAtPathRow.holds Try.pinned (OpenSpec.ofChange fnPlaceAtPathSpec)

/-- ITS FALSE NEIGHBOUR: 'it returns false'. Refute it at one input. -/
def fnPlaceAtPathWrong : ChangeSpec := { name := "fnPlaceAtPath", fn := fun _ => fun
  | [d] => { results := [.lit (.bool false)], args := [d] }
  | _ => none }
def FnPlaceAtPathWrongFalsely : Prop := fnPlaceAtPathRow.holds Try.pinned (OpenSpec.ofChange fnPlaceAtPathWrong)

/-- 'zzlaws_internal_plan_b1.FnPlaceAtFlatScript': WHATEVER THE INPUT: true; the input reads as it did. -/
def fnPlaceAtFlatScriptSpec : ChangeSpec := { name := "fnPlaceAtFlatScript", fn := fun _ => fun
  | [d] => { results := [.lit (.bool true)], args := [d] }
  | _ => none }
def fnPlaceAtFlatScriptRow : OpenClaim := { program := "qxb6600116a", sum := "7e2edc78e532d02e347697a536f97b7209f2cb722b01c53bbb56e59a4d7abd9d", func := "example.com/vestwright/vestwright/zzlaws_internal_plan_b1.FnPlaceAtFlatScript", spec := "fnPlaceAtFlatScript", apart := false }
def FnPlaceAtFlatScriptSaid : Prop := fnPlaceAtFlatScriptRow.holds Try.pinned (OpenSpec.ofChange fnPlaceAtFlatScriptSpec)

/-- ITS FALSE NEIGHBOUR: 'it returns false'. Refute it at one input. -/
def fnPlaceAtFlatScriptWrong : ChangeSpec := { name := "fnPlaceAtFlatScript", fn := fun _ => fun
  | [d] => { results := [.lit (.bool false)], args := [d] }
  | _ => none }
def FnPlaceAtFlatScriptWrongFalsely : Prop := fnPlaceAtFlatScriptRow.holds Try.pinned (OpenSpec.ofChange fnPlaceAtFlatScriptWrong)

end Rows
end Go.Proofs.Qxb6600116a
