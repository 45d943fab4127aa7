/-
  No cell of these rows narrows 'for every input' (looked for: loops, veiled, ifaces, maps, wideKeys, modest, calm, conditions, laid).
  DERIVED. THE GIVEN ROWS OF THIS SEAT. 7 by the template 'for every input the law returns true; each argument reads behind the call as it read before'; 0 by the template 'total and deterministic' (their statements: Qxb6000358aTotals.lean).
  GIVEN WITH THE SEED: the statements are not yours to turn. If you find one false, say at which input.
  Laid BY PROGRAM, IN A SANDBOX (cutbox-rows.mjs): the forced cells as the released guide's own fill.sh prints them over the translation 4b33b9fa33a03d97… (all of the seat's roots in one cut). By AI agents, Wed Nov 11 2026. No macro, syntax, notation, axiom, sorry.
-/
import Derived.Test.Qxb6000358aChecked
import GoSem.Claim
import GoSem.ClaimJoined
import GoSem.ClaimMapViews
import Derived.JoinedTies
import Derived.KernelRfl
namespace Go.Proofs.Qxb6000358a
/- THE CELL 'sum', in the pinned program and in every row, IS THE sha256 OF THE DUMP (.gsa) THAT Qxb6000358aProg.lean LOADS. Nothing in Lean hashes anything: it is a label: what it is worth is what the hold of that sum in a sandbox is worth. -/
noncomputable def Try.pinned : Pinned := { name := "qxb6000358a", sum := "4b33b9fa33a03d97c9e7421826195379ffcf9413195b5609bc8505f8634e363d", checked := Try.checked }
namespace Rows
def none {H : Type} : Left H := { results := [], args := [] }

/-- 'zzlaws_internal_lzma_b1.FnHeaderDictLeastFormAtOrAbove': WHATEVER THE INPUT: true; the input reads as it did. -/
def fnHeaderDictLeastFormAtOrAboveSpec : ChangeSpec := { name := "fnHeaderDictLeastFormAtOrAbove", fn := fun _ => fun
  | [d] => { results := [.lit (.bool true)], args := [d] }
  | _ => none }
def fnHeaderDictLeastFormAtOrAboveRow : OpenClaim := { program := "qxb6000358a", sum := "4b33b9fa33a03d97c9e7421826195379ffcf9413195b5609bc8505f8634e363d", func := "example.com/packwright/packwright/zzlaws_internal_lzma_b1.FnHeaderDictLeastFormAtOrAbove", spec := "fnHeaderDictLeastFormAtOrAbove", apart := false }
def FnHeaderDictLeastFormAtOrAboveSaid : Prop := fnHeaderDictLeastFormAtOrAboveRow.holds Try.pinned (OpenSpec.ofChange fnHeaderDictLeastFormAtOrAboveSpec)

/-- ITS FALSE NEIGHBOUR: 'it returns false'. Refute it at one input. -/
def fnHeaderDictLeastFormAtOrAboveWrong : ChangeSpec := { name := "fnHeaderDictLeastFormAtOrAbove", fn := fun _ => fun
  | [d] => { results := [.lit (.bool false)], args := [d] }
  | _ => none }
def FnHeaderDictLeastFormAtOrAboveWrongFalsely : Prop := fnHeaderDictLeastFormAtOrAboveRow.holds Try.pinned (OpenSpec.ofChange fnHeaderDictLeastFormAtOrAboveWrong)

/-- 'zzlaws_internal_lzma_b1.FnHeaderDictMonotone': WHATEVER THE INPUT: true; the input reads as it did. -/
def fnHeaderDictMonotoneSpec : ChangeSpec := { name := "fnHeaderDictMonotone", fn := fun _ => fun
  | [d1, d2] => { results := [.lit (.bool true)], args := [d1, d2] }
  | _ => none }
def fnHeaderDictMonotoneRow : OpenClaim := { program := "qxb6000358a", sum := "4b33b9fa33a03d97c9e7421826195379ffcf9413195b5609bc8505f8634e363d", func := "example.com/packwright/packwright/zzlaws_internal_lzma_b1.FnHeaderDictMonotone", spec := "fnHeaderDictMonotone", apart := false }
def FnHeaderDictMonotoneSaid : Prop := fnHeaderDictMonotoneRow.holds Try.pinned (OpenSpec.ofChange fnHeaderDictMonotoneSpec)

/-- ITS FALSE NEIGHBOUR: 'it returns false'. Refute it at one input. -/
def fnHeaderDictMonotoneWrong : ChangeSpec := { name := "fnHeaderDictMonotone", fn := fun _ => fun
  | [d1, d2] => { results := [.lit (.bool false)], args := [d1, d2] }
  | _ => none }
def FnHeaderDictMonotoneWrongFalsely : Prop := fnHeaderDictMonotoneRow.holds Try.pinned (OpenSpec.ofChange fnHeaderDictMonotoneWrong)

/-- 'zzlaws_internal_lzma_b1.FnHeaderDictIdempotent': WHATEVER THE INPUT: true; the input reads as it did. -/
def fnHeaderDictIdempotentSpec : ChangeSpec := { name := "fnHeaderDictIdempotent", fn := fun _ => fun
  | [d] => { results := [.lit (.bool true)], args := [d] }
  | _ => none }
def fnHeaderDictIdempotentRow : OpenClaim := { program := "qxb6000358a", sum := "4b33b9fa33a03d97c9e7421826195379ffcf9413195b5609bc8505f8634e363d", func := "example.com/packwright/packwright/zzlaws_internal_lzma_b1.FnHeaderDictIdempotent", spec := "fnHeaderDictIdempotent", apart := false }
def FnHeaderDictIdempotentSaid : Prop := fnHeaderDictIdempotentRow.holds Try.pinned (OpenSpec.ofChange fnHeaderDictIdempotentSpec)

/-- ITS FALSE NEIGHBOUR: 'it returns false'. Refute it at one input. -/
def fnHeaderDictIdempotentWrong : ChangeSpec := { name := "fnHeaderDictIdempotent", fn := fun _ => fun
  | [d] => { results := [.lit (.bool false)], args := [d] }
  | _ => none }
def FnHeaderDictIdempotentWrongFalsely : Prop := fnHeaderDictIdempotentRow.holds Try.pinned (OpenSpec.ofChange fnHeaderDictIdempotentWrong)

/-- 'zzlaws_internal_lzma_b1.FnLiteralPathAgreesWithPrefixModel': WHATEVER THE INPUT: true; the input reads as it did. -/
def fnLiteralPathAgreesWithPrefixModelSpec : ChangeSpec := { name := "fnLiteralPathAgreesWithPrefixModel", fn := fun _ => fun
  | [d1, d2] => { results := [.lit (.bool true)], args := [d1, d2] }
  | _ => none }
def fnLiteralPathAgreesWithPrefixModelRow : OpenClaim := { program := "qxb6000358a", sum := "4b33b9fa33a03d97c9e7421826195379ffcf9413195b5609bc8505f8634e363d", func := "example.com/packwright/packwright/zzlaws_internal_lzma_b1.FnLiteralPathAgreesWithPrefixModel", spec := "fnLiteralPathAgreesWithPrefixModel", apart := false }
def FnLiteralPathAgreesWithPrefixModelSaid : Prop := fnLiteralPathAgreesWithPrefixModelRow.holds Try.pinned (OpenSpec.ofChange fnLiteralPathAgreesWithPrefixModelSpec)

/-- ITS FALSE NEIGHBOUR: 'it returns false'. Refute it at one input. -/
def fnLiteralPathAgreesWithPrefixModelWrong : ChangeSpec := { name := "fnLiteralPathAgreesWithPrefixModel", fn := fun _ => fun
  | [d1, d2] => { results := [.lit (.bool false)], args := [d1, d2] }
  | _ => none }
def FnLiteralPathAgreesWithPrefixModelWrongFalsely : Prop := fnLiteralPathAgreesWithPrefixModelRow.holds Try.pinned (OpenSpec.ofChange fnLiteralPathAgreesWithPrefixModelWrong)

/-- 'zzlaws_internal_lzma_b1.FnLiteralPathPlainSeesTopSevenBits': WHATEVER THE INPUT: true; the input reads as it did. -/
def fnLiteralPathPlainSeesTopSevenBitsSpec : ChangeSpec := { name := "fnLiteralPathPlainSeesTopSevenBits", fn := fun _ => fun
  | [d1, d2] => { results := [.lit (.bool true)], args := [d1, d2] }
  | _ => none }
def fnLiteralPathPlainSeesTopSevenBitsRow : OpenClaim := { program := "qxb6000358a", sum := "4b33b9fa33a03d97c9e7421826195379ffcf9413195b5609bc8505f8634e363d", func := "example.com/packwright/packwright/zzlaws_internal_lzma_b1.FnLiteralPathPlainSeesTopSevenBits", spec := "fnLiteralPathPlainSeesTopSevenBits", apart := false }
def FnLiteralPathPlainSeesTopSevenBitsSaid : Prop := fnLiteralPathPlainSeesTopSevenBitsRow.holds Try.pinned (OpenSpec.ofChange fnLiteralPathPlainSeesTopSevenBitsSpec)

/-- ITS FALSE NEIGHBOUR: 'it returns false'. Refute it at one input. -/
def fnLiteralPathPlainSeesTopSevenBitsWrong : ChangeSpec := { name := "fnLiteralPathPlainSeesTopSevenBits", fn := fun _ => fun
  | [d1, d2] => { results := [.lit (.bool false)], args := [d1, d2] }
  | _ => none }
def FnLiteralPathPlainSeesTopSevenBitsWrongFalsely : Prop := fnLiteralPathPlainSeesTopSevenBitsRow.holds Try.pinned (OpenSpec.ofChange fnLiteralPathPlainSeesTopSevenBitsWrong)

/-- 'zzlaws_internal_lzma_b1.FnLiteralPathNormalForm': WHATEVER THE INPUT: true; the input reads as it did. -/
def fnLiteralPathNormalFormSpec : ChangeSpec := { name := "fnLiteralPathNormalForm", fn := fun _ => fun
  | [d1, d2] => { results := [.lit (.bool true)], args := [d1, d2] }
  | _ => none }
def fnLiteralPathNormalFormRow : OpenClaim := { program := "qxb6000358a", sum := "4b33b9fa33a03d97c9e7421826195379ffcf9413195b5609bc8505f8634e363d", func := "example.com/packwright/packwright/zzlaws_internal_lzma_b1.FnLiteralPathNormalForm", spec := "fnLiteralPathNormalForm", apart := false }
def FnLiteralPathNormalFormSaid : Prop := fnLiteralPathNormalFormRow.holds Try.pinned (OpenSpec.ofChange fnLiteralPathNormalFormSpec)

/-- ITS FALSE NEIGHBOUR: 'it returns false'. Refute it at one input. -/
def fnLiteralPathNormalFormWrong : ChangeSpec := { name := "fnLiteralPathNormalForm", fn := fun _ => fun
  | [d1, d2] => { results := [.lit (.bool false)], args := [d1, d2] }
  | _ => none }
def FnLiteralPathNormalFormWrongFalsely : Prop := fnLiteralPathNormalFormRow.holds Try.pinned (OpenSpec.ofChange fnLiteralPathNormalFormWrong)

/-- 'zzlaws_internal_lzma_b1.FnProbsResetLeavesEvenOdds': WHATEVER THE INPUT: true; the input reads as it did. -/
def fnProbsResetLeavesEvenOddsSpec : ChangeSpec := { name := "fnProbsResetLeavesEvenOdds", fn := fun _ => fun
  | [d] => { results := [.lit (.bool true)], args := [d] }
  | _ => none }
def fnProbsResetLeavesEvenOddsRow : OpenClaim := { program := "qxb6000358a", sum := "4b33b9fa33a03d97c9e7421826195379ffcf9413195b5609bc8505f8634e363d", func := "example.com/packwright/packwright/zzlaws_internal_lzma_b1.FnProbsResetLeavesEvenOdds", spec := "fnProbsResetLeavesEvenOdds", apart := false }
def FnProbsResetLeavesEvenOddsSaid : Prop := fnProbsResetLeavesEvenOddsRow.holds Try.pinned (OpenSpec.ofChange fnProbsResetLeavesEvenOddsSpec)

/-- ITS FALSE NEIGHBOUR: 'it returns false'. Refute it at one input. -/
def fnProbsResetLeavesEvenOddsWrong : ChangeSpec := { name := "fnProbsResetLeavesEvenOdds", fn := fun _ => fun
  | [d] => { results := [.lit (.bool false)], args := [d] }
  | _ => none }
def FnProbsResetLeavesEvenOddsWrongFalsely : Prop := fnProbsResetLeavesEvenOddsRow.holds Try.pinned (OpenSpec.ofChange fnProbsResetLeavesEvenOddsWrong)

end Rows
end Go.Proofs.Qxb6000358a
