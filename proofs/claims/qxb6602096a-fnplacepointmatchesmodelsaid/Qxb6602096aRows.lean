/-
  No cell of these rows narrows 'for every input' (looked for: loops, veiled, ifaces, maps, wideKeys, modest, calm, conditions, laid).
  DERIVED. THE GIVEN ROWS OF THIS SEAT. 5 by the template 'for every input the law returns true; each argument reads behind the call as it read before'; 0 by the template 'total and deterministic' (their statements: Qxb6602096aTotals.lean).
  GIVEN WITH THE SEED: the statements are not yours to turn. If you find one false, say at which input.
  Laid BY PROGRAM, IN A SANDBOX (cutbox-rows.mjs): the forced cells as the released guide's own fill.sh prints them over the translation e766ec243268ea9a… (all of the seat's roots in one cut). By AI agents, Wed Nov 11 2026. No macro, syntax, notation, axiom, sorry.
-/
import Derived.Test.Qxb6602096aChecked
import GoSem.Claim
import GoSem.ClaimJoined
import GoSem.ClaimMapViews
import Derived.JoinedTies
import Derived.KernelRfl
namespace Go.Proofs.Qxb6602096a
/- THE CELL 'sum', in the pinned program and in every row, IS THE sha256 OF THE DUMP (.gsa) THAT Qxb6602096aProg.lean LOADS. Nothing in Lean hashes anything: it is a label: what it is worth is what the hold of that sum in a sandbox is worth. -/
noncomputable def Try.pinned : Pinned := { name := "qxb6602096a", sum := "e766ec243268ea9a9a05489d87a1c7021326486670f7997fc3badd674e411427", checked := Try.checked }
namespace Rows
def none {H : Type} : Left H := { results := [], args := [] }

/-- 'zzlaws_internal_digits_b1.FnEightMatchesDigitByDigitDivision': WHATEVER THE INPUT: true; the input reads as it did. -/
def fnEightMatchesDigitByDigitDivisionSpec : ChangeSpec := { name := "fnEightMatchesDigitByDigitDivision", fn := fun _ => fun
  | [d] => { results := [.lit (.bool true)], args := [d] }
  | _ => none }
def fnEightMatchesDigitByDigitDivisionRow : OpenClaim := { program := "qxb6602096a", sum := "e766ec243268ea9a9a05489d87a1c7021326486670f7997fc3badd674e411427", func := "example.com/kojinsai/kojinsai/zzlaws_internal_digits_b1.FnEightMatchesDigitByDigitDivision", spec := "fnEightMatchesDigitByDigitDivision", apart := false }
def FnEightMatchesDigitByDigitDivisionSaid : Prop := fnEightMatchesDigitByDigitDivisionRow.holds Try.pinned (OpenSpec.ofChange fnEightMatchesDigitByDigitDivisionSpec)

/-- ITS FALSE NEIGHBOUR: 'it returns false'. Refute it at one input. -/
def fnEightMatchesDigitByDigitDivisionWrong : ChangeSpec := { name := "fnEightMatchesDigitByDigitDivision", fn := fun _ => fun
  | [d] => { results := [.lit (.bool false)], args := [d] }
  | _ => none }
def FnEightMatchesDigitByDigitDivisionWrongFalsely : Prop := fnEightMatchesDigitByDigitDivisionRow.holds Try.pinned (OpenSpec.ofChange fnEightMatchesDigitByDigitDivisionWrong)

/-- 'zzlaws_internal_digits_b1.FnEightDigitsReadBackToX': WHATEVER THE INPUT: true; the input reads as it did. -/
def fnEightDigitsReadBackToXSpec : ChangeSpec := { name := "fnEightDigitsReadBackToX", fn := fun _ => fun
  | [d] => { results := [.lit (.bool true)], args := [d] }
  | _ => none }
def fnEightDigitsReadBackToXRow : OpenClaim := { program := "qxb6602096a", sum := "e766ec243268ea9a9a05489d87a1c7021326486670f7997fc3badd674e411427", func := "example.com/kojinsai/kojinsai/zzlaws_internal_digits_b1.FnEightDigitsReadBackToX", spec := "fnEightDigitsReadBackToX", apart := false }
def FnEightDigitsReadBackToXSaid : Prop := fnEightDigitsReadBackToXRow.holds Try.pinned (OpenSpec.ofChange fnEightDigitsReadBackToXSpec)

/-- ITS FALSE NEIGHBOUR: 'it returns false'. Refute it at one input. -/
def fnEightDigitsReadBackToXWrong : ChangeSpec := { name := "fnEightDigitsReadBackToX", fn := fun _ => fun
  | [d] => { results := [.lit (.bool false)], args := [d] }
  | _ => none }
def FnEightDigitsReadBackToXWrongFalsely : Prop := fnEightDigitsReadBackToXRow.holds Try.pinned (OpenSpec.ofChange fnEightDigitsReadBackToXWrong)

/-- 'zzlaws_internal_digits_b1.FnPlacePointMatchesModel': WHATEVER THE INPUT: true; the input reads as it did. -/
def fnPlacePointMatchesModelSpec : ChangeSpec := { name := "fnPlacePointMatchesModel", fn := fun _ => fun
  | [d1, d2, d3, d4] => { results := [.lit (.bool true)], args := [d1, d2, d3, d4] }
  | _ => none }
def fnPlacePointMatchesModelRow : OpenClaim := { program := "qxb6602096a", sum := "e766ec243268ea9a9a05489d87a1c7021326486670f7997fc3badd674e411427", func := "example.com/kojinsai/kojinsai/zzlaws_internal_digits_b1.FnPlacePointMatchesModel", spec := "fnPlacePointMatchesModel", apart := false }
def FnPlacePointMatchesModelSaid : Prop := fnPlacePointMatchesModelRow.holds Try.pinned (OpenSpec.ofChange fnPlacePointMatchesModelSpec)

/-- ITS FALSE NEIGHBOUR: 'it returns false'. Refute it at one input. -/
def fnPlacePointMatchesModelWrong : ChangeSpec := { name := "fnPlacePointMatchesModel", fn := fun _ => fun
  | [d1, d2, d3, d4] => { results := [.lit (.bool false)], args := [d1, d2, d3, d4] }
  | _ => none }
def FnPlacePointMatchesModelWrongFalsely : Prop := fnPlacePointMatchesModelRow.holds Try.pinned (OpenSpec.ofChange fnPlacePointMatchesModelWrong)

/-- 'zzlaws_internal_digits_b1.FnPlacePointOneMoreZeroOneMorePlace': WHATEVER THE INPUT: true; the input reads as it did. -/
def fnPlacePointOneMoreZeroOneMorePlaceSpec : ChangeSpec := { name := "fnPlacePointOneMoreZeroOneMorePlace", fn := fun _ => fun
  | [d1, d2, d3, d4] => { results := [.lit (.bool true)], args := [d1, d2, d3, d4] }
  | _ => none }
def fnPlacePointOneMoreZeroOneMorePlaceRow : OpenClaim := { program := "qxb6602096a", sum := "e766ec243268ea9a9a05489d87a1c7021326486670f7997fc3badd674e411427", func := "example.com/kojinsai/kojinsai/zzlaws_internal_digits_b1.FnPlacePointOneMoreZeroOneMorePlace", spec := "fnPlacePointOneMoreZeroOneMorePlace", apart := false }
def FnPlacePointOneMoreZeroOneMorePlaceSaid : Prop := fnPlacePointOneMoreZeroOneMorePlaceRow.holds Try.pinned (OpenSpec.ofChange fnPlacePointOneMoreZeroOneMorePlaceSpec)

/-- ITS FALSE NEIGHBOUR: 'it returns false'. Refute it at one input. -/
def fnPlacePointOneMoreZeroOneMorePlaceWrong : ChangeSpec := { name := "fnPlacePointOneMoreZeroOneMorePlace", fn := fun _ => fun
  | [d1, d2, d3, d4] => { results := [.lit (.bool false)], args := [d1, d2, d3, d4] }
  | _ => none }
def FnPlacePointOneMoreZeroOneMorePlaceWrongFalsely : Prop := fnPlacePointOneMoreZeroOneMorePlaceRow.holds Try.pinned (OpenSpec.ofChange fnPlacePointOneMoreZeroOneMorePlaceWrong)

/-- 'zzlaws_internal_digits_b1.FnTrimPointIgnoresOneMoreTrailingZero': WHATEVER THE INPUT: true; the input reads as it did. -/
def fnTrimPointIgnoresOneMoreTrailingZeroSpec : ChangeSpec := { name := "fnTrimPointIgnoresOneMoreTrailingZero", fn := fun _ => fun
  | [d1, d2, d3, d4] => { results := [.lit (.bool true)], args := [d1, d2, d3, d4] }
  | _ => none }
def fnTrimPointIgnoresOneMoreTrailingZeroRow : OpenClaim := { program := "qxb6602096a", sum := "e766ec243268ea9a9a05489d87a1c7021326486670f7997fc3badd674e411427", func := "example.com/kojinsai/kojinsai/zzlaws_internal_digits_b1.FnTrimPointIgnoresOneMoreTrailingZero", spec := "fnTrimPointIgnoresOneMoreTrailingZero", apart := false }
def FnTrimPointIgnoresOneMoreTrailingZeroSaid : Prop := fnTrimPointIgnoresOneMoreTrailingZeroRow.holds Try.pinned (OpenSpec.ofChange fnTrimPointIgnoresOneMoreTrailingZeroSpec)

/-- ITS FALSE NEIGHBOUR: 'it returns false'. Refute it at one input. -/
def fnTrimPointIgnoresOneMoreTrailingZeroWrong : ChangeSpec := { name := "fnTrimPointIgnoresOneMoreTrailingZero", fn := fun _ => fun
  | [d1, d2, d3, d4] => { results := [.lit (.bool false)], args := [d1, d2, d3, d4] }
  | _ => none }
def FnTrimPointIgnoresOneMoreTrailingZeroWrongFalsely : Prop := fnTrimPointIgnoresOneMoreTrailingZeroRow.holds Try.pinned (OpenSpec.ofChange fnTrimPointIgnoresOneMoreTrailingZeroWrong)

end Rows
end Go.Proofs.Qxb6602096a
