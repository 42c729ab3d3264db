/-
  No cell of these rows narrows 'for every input' (looked for: loops, veiled, ifaces, maps, wideKeys, modest, calm, conditions, laid).
  DERIVED. THE GIVEN ROWS OF THIS SEAT. 4 by the template 'for every input the law returns true; each argument reads behind the call as it read before'; 0 by the template 'total and deterministic' (their statements: Qxb6613699aModsTotals.lean).
  GIVEN WITH THE SEED: the statements are not yours to turn. If you find one false, say at which input.
  Laid BY PROGRAM, IN A SANDBOX (cutbox-rows.mjs): the forced cells as the released guide's own fill.sh prints them over the translation d5f8956e002fd59f… (all of the seat's roots in one cut). By AI agents, Wed Nov 11 2026. No macro, syntax, notation, axiom, sorry.
-/
import Derived.Test.Qxb6613699aModsChecked
import GoSem.Claim
import GoSem.ClaimJoined
import GoSem.ClaimMapViews
import Derived.JoinedTies
import Derived.KernelRfl
namespace Go.Proofs.Qxb6613699aMods
/- THE CELL 'sum', in the pinned program and in every row, IS THE sha256 OF THE DUMP (.gsa) THAT Qxb6613699aModsProg.lean LOADS. Nothing in Lean hashes anything: it is a label: what it is worth is what the hold of that sum in a sandbox is worth. -/
noncomputable def Trym.pinned : Pinned := { name := "qxb6613699amods", sum := "d5f8956e002fd59fa89f1b56e09f5e4cc9bd2109427555b62827e4ab39ae8448", checked := Trym.checked }
namespace Rows
def none {H : Type} : Left H := { results := [], args := [] }

/-- 'zzlaws_root_b1.FnIsASCIIDigitCountsTenRunFromZero': WHATEVER THE INPUT: true; the input reads as it did. -/
def fnIsASCIIDigitCountsTenRunFromZeroSpec : ChangeSpec := { name := "fnIsASCIIDigitCountsTenRunFromZero", fn := fun _ => fun
  | [d] => { results := [.lit (.bool true)], args := [d] }
  | _ => none }
def fnIsASCIIDigitCountsTenRunFromZeroRow : OpenClaim := { program := "qxb6613699amods", sum := "d5f8956e002fd59fa89f1b56e09f5e4cc9bd2109427555b62827e4ab39ae8448", func := "example.com/field-warden/field-warden/zzlaws_root_b1.FnIsASCIIDigitCountsTenRunFromZero", spec := "fnIsASCIIDigitCountsTenRunFromZero", make := .lifted ["publicsums"], apart := false }
def FnIsASCIIDigitCountsTenRunFromZeroSaid : Prop := fnIsASCIIDigitCountsTenRunFromZeroRow.holds Trym.pinned (OpenSpec.ofChange fnIsASCIIDigitCountsTenRunFromZeroSpec)

/-- ITS FALSE NEIGHBOUR: 'it returns false'. Refute it at one input. -/
def fnIsASCIIDigitCountsTenRunFromZeroWrong : ChangeSpec := { name := "fnIsASCIIDigitCountsTenRunFromZero", fn := fun _ => fun
  | [d] => { results := [.lit (.bool false)], args := [d] }
  | _ => none }
def FnIsASCIIDigitCountsTenRunFromZeroWrongFalsely : Prop := fnIsASCIIDigitCountsTenRunFromZeroRow.holds Trym.pinned (OpenSpec.ofChange fnIsASCIIDigitCountsTenRunFromZeroWrong)

/-- 'zzlaws_root_b1.FnIsASCIIDigitIsTheHexDigitWhoseCaseFlipIsNone': WHATEVER THE INPUT: true; the input reads as it did. -/
def fnIsASCIIDigitIsTheHexDigitWhoseCaseFlipIsNoneSpec : ChangeSpec := { name := "fnIsASCIIDigitIsTheHexDigitWhoseCaseFlipIsNone", fn := fun _ => fun
  | [d] => { results := [.lit (.bool true)], args := [d] }
  | _ => none }
def fnIsASCIIDigitIsTheHexDigitWhoseCaseFlipIsNoneRow : OpenClaim := { program := "qxb6613699amods", sum := "d5f8956e002fd59fa89f1b56e09f5e4cc9bd2109427555b62827e4ab39ae8448", func := "example.com/field-warden/field-warden/zzlaws_root_b1.FnIsASCIIDigitIsTheHexDigitWhoseCaseFlipIsNone", spec := "fnIsASCIIDigitIsTheHexDigitWhoseCaseFlipIsNone", make := .lifted ["publicsums"], apart := false }
def FnIsASCIIDigitIsTheHexDigitWhoseCaseFlipIsNoneSaid : Prop := fnIsASCIIDigitIsTheHexDigitWhoseCaseFlipIsNoneRow.holds Trym.pinned (OpenSpec.ofChange fnIsASCIIDigitIsTheHexDigitWhoseCaseFlipIsNoneSpec)

/-- ITS FALSE NEIGHBOUR: 'it returns false'. Refute it at one input. -/
def fnIsASCIIDigitIsTheHexDigitWhoseCaseFlipIsNoneWrong : ChangeSpec := { name := "fnIsASCIIDigitIsTheHexDigitWhoseCaseFlipIsNone", fn := fun _ => fun
  | [d] => { results := [.lit (.bool false)], args := [d] }
  | _ => none }
def FnIsASCIIDigitIsTheHexDigitWhoseCaseFlipIsNoneWrongFalsely : Prop := fnIsASCIIDigitIsTheHexDigitWhoseCaseFlipIsNoneRow.holds Trym.pinned (OpenSpec.ofChange fnIsASCIIDigitIsTheHexDigitWhoseCaseFlipIsNoneWrong)

/-- 'zzlaws_root_b1.FnIsASCIIHexDigitCountsDigitsAndTwoLetterRuns': WHATEVER THE INPUT: true; the input reads as it did. -/
def fnIsASCIIHexDigitCountsDigitsAndTwoLetterRunsSpec : ChangeSpec := { name := "fnIsASCIIHexDigitCountsDigitsAndTwoLetterRuns", fn := fun _ => fun
  | [d] => { results := [.lit (.bool true)], args := [d] }
  | _ => none }
def fnIsASCIIHexDigitCountsDigitsAndTwoLetterRunsRow : OpenClaim := { program := "qxb6613699amods", sum := "d5f8956e002fd59fa89f1b56e09f5e4cc9bd2109427555b62827e4ab39ae8448", func := "example.com/field-warden/field-warden/zzlaws_root_b1.FnIsASCIIHexDigitCountsDigitsAndTwoLetterRuns", spec := "fnIsASCIIHexDigitCountsDigitsAndTwoLetterRuns", make := .lifted ["publicsums"], apart := false }
def FnIsASCIIHexDigitCountsDigitsAndTwoLetterRunsSaid : Prop := fnIsASCIIHexDigitCountsDigitsAndTwoLetterRunsRow.holds Trym.pinned (OpenSpec.ofChange fnIsASCIIHexDigitCountsDigitsAndTwoLetterRunsSpec)

/-- ITS FALSE NEIGHBOUR: 'it returns false'. Refute it at one input. -/
def fnIsASCIIHexDigitCountsDigitsAndTwoLetterRunsWrong : ChangeSpec := { name := "fnIsASCIIHexDigitCountsDigitsAndTwoLetterRuns", fn := fun _ => fun
  | [d] => { results := [.lit (.bool false)], args := [d] }
  | _ => none }
def FnIsASCIIHexDigitCountsDigitsAndTwoLetterRunsWrongFalsely : Prop := fnIsASCIIHexDigitCountsDigitsAndTwoLetterRunsRow.holds Trym.pinned (OpenSpec.ofChange fnIsASCIIHexDigitCountsDigitsAndTwoLetterRunsWrong)

/-- 'zzlaws_root_b1.FnIsASCIIHexDigitIsDigitsAndSixLettersInEitherCase': WHATEVER THE INPUT: true; the input reads as it did. -/
def fnIsASCIIHexDigitIsDigitsAndSixLettersInEitherCaseSpec : ChangeSpec := { name := "fnIsASCIIHexDigitIsDigitsAndSixLettersInEitherCase", fn := fun _ => fun
  | [d] => { results := [.lit (.bool true)], args := [d] }
  | _ => none }
def fnIsASCIIHexDigitIsDigitsAndSixLettersInEitherCaseRow : OpenClaim := { program := "qxb6613699amods", sum := "d5f8956e002fd59fa89f1b56e09f5e4cc9bd2109427555b62827e4ab39ae8448", func := "example.com/field-warden/field-warden/zzlaws_root_b1.FnIsASCIIHexDigitIsDigitsAndSixLettersInEitherCase", spec := "fnIsASCIIHexDigitIsDigitsAndSixLettersInEitherCase", make := .lifted ["publicsums"], apart := false }
def FnIsASCIIHexDigitIsDigitsAndSixLettersInEitherCaseSaid : Prop := fnIsASCIIHexDigitIsDigitsAndSixLettersInEitherCaseRow.holds Trym.pinned (OpenSpec.ofChange fnIsASCIIHexDigitIsDigitsAndSixLettersInEitherCaseSpec)

/-- ITS FALSE NEIGHBOUR: 'it returns false'. Refute it at one input. -/
def fnIsASCIIHexDigitIsDigitsAndSixLettersInEitherCaseWrong : ChangeSpec := { name := "fnIsASCIIHexDigitIsDigitsAndSixLettersInEitherCase", fn := fun _ => fun
  | [d] => { results := [.lit (.bool false)], args := [d] }
  | _ => none }
def FnIsASCIIHexDigitIsDigitsAndSixLettersInEitherCaseWrongFalsely : Prop := fnIsASCIIHexDigitIsDigitsAndSixLettersInEitherCaseRow.holds Trym.pinned (OpenSpec.ofChange fnIsASCIIHexDigitIsDigitsAndSixLettersInEitherCaseWrong)

end Rows
end Go.Proofs.Qxb6613699aMods
