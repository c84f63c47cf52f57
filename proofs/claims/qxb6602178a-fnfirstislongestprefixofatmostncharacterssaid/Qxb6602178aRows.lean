/-
  No cell of these rows narrows 'for every input' (looked for: loops, veiled, ifaces, maps, wideKeys, modest, calm, conditions, laid).
  DERIVED. THE GIVEN ROWS OF THIS SEAT. 3 by the template 'for every input the law returns true; each argument reads behind the call as it read before'; 0 by the template 'total and deterministic' (their statements: Qxb6602178aTotals.lean).
  GIVEN WITH THE SEED: the statements are not yours to turn. If you find one false, say at which input.
  Laid BY PROGRAM, IN A SANDBOX (cutbox-rows.mjs): the forced cells as the released guide's own fill.sh prints them over the translation eff161d5af3124ca… (all of the seat's roots in one cut). By AI agents, Wed Nov 11 2026. No macro, syntax, notation, axiom, sorry.
-/
import Derived.Test.Qxb6602178aChecked
import GoSem.Claim
import GoSem.ClaimJoined
import GoSem.ClaimMapViews
import Derived.JoinedTies
import Derived.KernelRfl
namespace Go.Proofs.Qxb6602178a
/- THE CELL 'sum', in the pinned program and in every row, IS THE sha256 OF THE DUMP (.gsa) THAT Qxb6602178aProg.lean LOADS. Nothing in Lean hashes anything: it is a label: what it is worth is what the hold of that sum in a sandbox is worth. -/
noncomputable def Try.pinned : Pinned := { name := "qxb6602178a", sum := "eff161d5af3124ca49a341a0d59fe8821a9d8299563b8b5aefa1607cd72ba301", checked := Try.checked }
namespace Rows
def none {H : Type} : Left H := { results := [], args := [] }

/-- 'zzlaws_internal_clip_b1.FnFirstIsLongestPrefixOfAtMostNCharacters': WHATEVER THE INPUT: true; the input reads as it did. -/
def fnFirstIsLongestPrefixOfAtMostNCharactersSpec : ChangeSpec := { name := "fnFirstIsLongestPrefixOfAtMostNCharacters", fn := fun _ => fun
  | [d1, d2] => { results := [.lit (.bool true)], args := [d1, d2] }
  | _ => none }
def fnFirstIsLongestPrefixOfAtMostNCharactersRow : OpenClaim := { program := "qxb6602178a", sum := "eff161d5af3124ca49a341a0d59fe8821a9d8299563b8b5aefa1607cd72ba301", func := "example.com/windrow/windrow/zzlaws_internal_clip_b1.FnFirstIsLongestPrefixOfAtMostNCharacters", spec := "fnFirstIsLongestPrefixOfAtMostNCharacters", apart := false }
def FnFirstIsLongestPrefixOfAtMostNCharactersSaid : Prop := fnFirstIsLongestPrefixOfAtMostNCharactersRow.holds Try.pinned (OpenSpec.ofChange fnFirstIsLongestPrefixOfAtMostNCharactersSpec)

/-- ITS FALSE NEIGHBOUR: 'it returns false'. Refute it at one input. -/
def fnFirstIsLongestPrefixOfAtMostNCharactersWrong : ChangeSpec := { name := "fnFirstIsLongestPrefixOfAtMostNCharacters", fn := fun _ => fun
  | [d1, d2] => { results := [.lit (.bool false)], args := [d1, d2] }
  | _ => none }
def FnFirstIsLongestPrefixOfAtMostNCharactersWrongFalsely : Prop := fnFirstIsLongestPrefixOfAtMostNCharactersRow.holds Try.pinned (OpenSpec.ofChange fnFirstIsLongestPrefixOfAtMostNCharactersWrong)

/-- 'zzlaws_internal_clip_b1.FnFirstComposesAsMin': WHATEVER THE INPUT: true; the input reads as it did. -/
def fnFirstComposesAsMinSpec : ChangeSpec := { name := "fnFirstComposesAsMin", fn := fun _ => fun
  | [d1, d2, d3] => { results := [.lit (.bool true)], args := [d1, d2, d3] }
  | _ => none }
def fnFirstComposesAsMinRow : OpenClaim := { program := "qxb6602178a", sum := "eff161d5af3124ca49a341a0d59fe8821a9d8299563b8b5aefa1607cd72ba301", func := "example.com/windrow/windrow/zzlaws_internal_clip_b1.FnFirstComposesAsMin", spec := "fnFirstComposesAsMin", apart := false }
def FnFirstComposesAsMinSaid : Prop := fnFirstComposesAsMinRow.holds Try.pinned (OpenSpec.ofChange fnFirstComposesAsMinSpec)

/-- ITS FALSE NEIGHBOUR: 'it returns false'. Refute it at one input. -/
def fnFirstComposesAsMinWrong : ChangeSpec := { name := "fnFirstComposesAsMin", fn := fun _ => fun
  | [d1, d2, d3] => { results := [.lit (.bool false)], args := [d1, d2, d3] }
  | _ => none }
def FnFirstComposesAsMinWrongFalsely : Prop := fnFirstComposesAsMinRow.holds Try.pinned (OpenSpec.ofChange fnFirstComposesAsMinWrong)

/-- 'zzlaws_internal_clip_b1.FnFirstSplitsAdditively': WHATEVER THE INPUT: true; the input reads as it did. -/
def fnFirstSplitsAdditivelySpec : ChangeSpec := { name := "fnFirstSplitsAdditively", fn := fun _ => fun
  | [d1, d2, d3] => { results := [.lit (.bool true)], args := [d1, d2, d3] }
  | _ => none }
def fnFirstSplitsAdditivelyRow : OpenClaim := { program := "qxb6602178a", sum := "eff161d5af3124ca49a341a0d59fe8821a9d8299563b8b5aefa1607cd72ba301", func := "example.com/windrow/windrow/zzlaws_internal_clip_b1.FnFirstSplitsAdditively", spec := "fnFirstSplitsAdditively", apart := false }
def FnFirstSplitsAdditivelySaid : Prop := fnFirstSplitsAdditivelyRow.holds Try.pinned (OpenSpec.ofChange fnFirstSplitsAdditivelySpec)

/-- ITS FALSE NEIGHBOUR: 'it returns false'. Refute it at one input. -/
def fnFirstSplitsAdditivelyWrong : ChangeSpec := { name := "fnFirstSplitsAdditively", fn := fun _ => fun
  | [d1, d2, d3] => { results := [.lit (.bool false)], args := [d1, d2, d3] }
  | _ => none }
def FnFirstSplitsAdditivelyWrongFalsely : Prop := fnFirstSplitsAdditivelyRow.holds Try.pinned (OpenSpec.ofChange fnFirstSplitsAdditivelyWrong)

end Rows
end Go.Proofs.Qxb6602178a
