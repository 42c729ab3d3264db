/-
  No cell of these rows narrows 'for every input' (looked for: loops, veiled, ifaces, maps, wideKeys, modest, calm, conditions, laid).
  DERIVED. THE GIVEN ROWS OF THIS SEAT. 7 by the template 'for every input the law returns true; each argument reads behind the call as it read before'; 0 by the template 'total and deterministic' (their statements: Qxb6600665aModsTotals.lean).
  GIVEN WITH THE SEED: the statements are not yours to turn. If you find one false, say at which input.
  Laid BY PROGRAM, IN A SANDBOX (cutbox-rows.mjs): the forced cells as the released guide's own fill.sh prints them over the translation 8ef1967ba858a760… (all of the seat's roots in one cut). By AI agents, Wed Nov 11 2026. No macro, syntax, notation, axiom, sorry.
-/
import Derived.Test.Qxb6600665aModsChecked
import GoSem.Claim
import GoSem.ClaimJoined
import GoSem.ClaimMapViews
import Derived.JoinedTies
import Derived.KernelRfl
namespace Go.Proofs.Qxb6600665aMods
/- THE CELL 'sum', in the pinned program and in every row, IS THE sha256 OF THE DUMP (.gsa) THAT Qxb6600665aModsProg.lean LOADS. Nothing in Lean hashes anything: it is a label: what it is worth is what the hold of that sum in a sandbox is worth. -/
noncomputable def Trym.pinned : Pinned := { name := "qxb6600665amods", sum := "8ef1967ba858a76015a42dee5cfc0f22f5983233e08df2ad5ec1980ca0db1959", checked := Trym.checked }
namespace Rows
def none {H : Type} : Left H := { results := [], args := [] }

/-- 'zzlaws_runsc_b1.FnSessionMembersModel': WHATEVER THE INPUT: true; the input reads as it did. -/
def fnSessionMembersModelSpec : ChangeSpec := { name := "fnSessionMembersModel", fn := fun _ => fun
  | [d1, d2, d3, d4, d5] => { results := [.lit (.bool true)], args := [d1, d2, d3, d4, d5] }
  | _ => none }
def fnSessionMembersModelRow : OpenClaim := { program := "qxb6600665amods", sum := "8ef1967ba858a76015a42dee5cfc0f22f5983233e08df2ad5ec1980ca0db1959", func := "example.com/napshot/napshot/zzlaws_runsc_b1.FnSessionMembersModel", spec := "fnSessionMembersModel", make := .lifted ["publicsums"], apart := false }
def FnSessionMembersModelSaid : Prop := fnSessionMembersModelRow.holds Trym.pinned (OpenSpec.ofChange fnSessionMembersModelSpec)

/-- ITS FALSE NEIGHBOUR: 'it returns false'. Refute it at one input. -/
def fnSessionMembersModelWrong : ChangeSpec := { name := "fnSessionMembersModel", fn := fun _ => fun
  | [d1, d2, d3, d4, d5] => { results := [.lit (.bool false)], args := [d1, d2, d3, d4, d5] }
  | _ => none }
def FnSessionMembersModelWrongFalsely : Prop := fnSessionMembersModelRow.holds Trym.pinned (OpenSpec.ofChange fnSessionMembersModelWrong)

/-- 'zzlaws_runsc_b1.FnSessionMembersMoreSessionsMoreMembers': WHATEVER THE INPUT: true; the input reads as it did. -/
def fnSessionMembersMoreSessionsMoreMembersSpec : ChangeSpec := { name := "fnSessionMembersMoreSessionsMoreMembers", fn := fun _ => fun
  | [d1, d2, d3, d4, d5, d6] => { results := [.lit (.bool true)], args := [d1, d2, d3, d4, d5, d6] }
  | _ => none }
def fnSessionMembersMoreSessionsMoreMembersRow : OpenClaim := { program := "qxb6600665amods", sum := "8ef1967ba858a76015a42dee5cfc0f22f5983233e08df2ad5ec1980ca0db1959", func := "example.com/napshot/napshot/zzlaws_runsc_b1.FnSessionMembersMoreSessionsMoreMembers", spec := "fnSessionMembersMoreSessionsMoreMembers", make := .lifted ["publicsums"], apart := false }
def FnSessionMembersMoreSessionsMoreMembersSaid : Prop := fnSessionMembersMoreSessionsMoreMembersRow.holds Trym.pinned (OpenSpec.ofChange fnSessionMembersMoreSessionsMoreMembersSpec)

/-- ITS FALSE NEIGHBOUR: 'it returns false'. Refute it at one input. -/
def fnSessionMembersMoreSessionsMoreMembersWrong : ChangeSpec := { name := "fnSessionMembersMoreSessionsMoreMembers", fn := fun _ => fun
  | [d1, d2, d3, d4, d5, d6] => { results := [.lit (.bool false)], args := [d1, d2, d3, d4, d5, d6] }
  | _ => none }
def FnSessionMembersMoreSessionsMoreMembersWrongFalsely : Prop := fnSessionMembersMoreSessionsMoreMembersRow.holds Trym.pinned (OpenSpec.ofChange fnSessionMembersMoreSessionsMoreMembersWrong)

/-- 'zzlaws_runsc_b1.FnSessionMembersOrderFree': WHATEVER THE INPUT: true; the input reads as it did. -/
def fnSessionMembersOrderFreeSpec : ChangeSpec := { name := "fnSessionMembersOrderFree", fn := fun _ => fun
  | [d1, d2, d3, d4, d5] => { results := [.lit (.bool true)], args := [d1, d2, d3, d4, d5] }
  | _ => none }
def fnSessionMembersOrderFreeRow : OpenClaim := { program := "qxb6600665amods", sum := "8ef1967ba858a76015a42dee5cfc0f22f5983233e08df2ad5ec1980ca0db1959", func := "example.com/napshot/napshot/zzlaws_runsc_b1.FnSessionMembersOrderFree", spec := "fnSessionMembersOrderFree", make := .lifted ["publicsums"], apart := false }
def FnSessionMembersOrderFreeSaid : Prop := fnSessionMembersOrderFreeRow.holds Trym.pinned (OpenSpec.ofChange fnSessionMembersOrderFreeSpec)

/-- ITS FALSE NEIGHBOUR: 'it returns false'. Refute it at one input. -/
def fnSessionMembersOrderFreeWrong : ChangeSpec := { name := "fnSessionMembersOrderFree", fn := fun _ => fun
  | [d1, d2, d3, d4, d5] => { results := [.lit (.bool false)], args := [d1, d2, d3, d4, d5] }
  | _ => none }
def FnSessionMembersOrderFreeWrongFalsely : Prop := fnSessionMembersOrderFreeRow.holds Trym.pinned (OpenSpec.ofChange fnSessionMembersOrderFreeWrong)

/-- 'zzlaws_runsc_b1.FnParseSupervisionWhole': WHATEVER THE INPUT: true; the input reads as it did. -/
def fnParseSupervisionWholeSpec : ChangeSpec := { name := "fnParseSupervisionWhole", fn := fun _ => fun
  | [d] => { results := [.lit (.bool true)], args := [d] }
  | _ => none }
def fnParseSupervisionWholeRow : OpenClaim := { program := "qxb6600665amods", sum := "8ef1967ba858a76015a42dee5cfc0f22f5983233e08df2ad5ec1980ca0db1959", func := "example.com/napshot/napshot/zzlaws_runsc_b1.FnParseSupervisionWhole", spec := "fnParseSupervisionWhole", make := .lifted ["publicsums"], apart := false }
def FnParseSupervisionWholeSaid : Prop := fnParseSupervisionWholeRow.holds Trym.pinned (OpenSpec.ofChange fnParseSupervisionWholeSpec)

/-- ITS FALSE NEIGHBOUR: 'it returns false'. Refute it at one input. -/
def fnParseSupervisionWholeWrong : ChangeSpec := { name := "fnParseSupervisionWhole", fn := fun _ => fun
  | [d] => { results := [.lit (.bool false)], args := [d] }
  | _ => none }
def FnParseSupervisionWholeWrongFalsely : Prop := fnParseSupervisionWholeRow.holds Trym.pinned (OpenSpec.ofChange fnParseSupervisionWholeWrong)

/-- 'zzlaws_runsc_b1.FnParseSupervisionRoundTrip': WHATEVER THE INPUT: true; the input reads as it did. -/
def fnParseSupervisionRoundTripSpec : ChangeSpec := { name := "fnParseSupervisionRoundTrip", fn := fun _ => fun
  | [d1, d2, d3] => { results := [.lit (.bool true)], args := [d1, d2, d3] }
  | _ => none }
def fnParseSupervisionRoundTripRow : OpenClaim := { program := "qxb6600665amods", sum := "8ef1967ba858a76015a42dee5cfc0f22f5983233e08df2ad5ec1980ca0db1959", func := "example.com/napshot/napshot/zzlaws_runsc_b1.FnParseSupervisionRoundTrip", spec := "fnParseSupervisionRoundTrip", make := .lifted ["publicsums"], apart := false }
def FnParseSupervisionRoundTripSaid : Prop := fnParseSupervisionRoundTripRow.holds Trym.pinned (OpenSpec.ofChange fnParseSupervisionRoundTripSpec)

/-- ITS FALSE NEIGHBOUR: 'it returns false'. Refute it at one input. -/
def fnParseSupervisionRoundTripWrong : ChangeSpec := { name := "fnParseSupervisionRoundTrip", fn := fun _ => fun
  | [d1, d2, d3] => { results := [.lit (.bool false)], args := [d1, d2, d3] }
  | _ => none }
def FnParseSupervisionRoundTripWrongFalsely : Prop := fnParseSupervisionRoundTripRow.holds Trym.pinned (OpenSpec.ofChange fnParseSupervisionRoundTripWrong)

/-- 'zzlaws_runsc_b1.FnParseSupervisorWhole': WHATEVER THE INPUT: true; the input reads as it did. -/
def fnParseSupervisorWholeSpec : ChangeSpec := { name := "fnParseSupervisorWhole", fn := fun _ => fun
  | [d] => { results := [.lit (.bool true)], args := [d] }
  | _ => none }
def fnParseSupervisorWholeRow : OpenClaim := { program := "qxb6600665amods", sum := "8ef1967ba858a76015a42dee5cfc0f22f5983233e08df2ad5ec1980ca0db1959", func := "example.com/napshot/napshot/zzlaws_runsc_b1.FnParseSupervisorWhole", spec := "fnParseSupervisorWhole", make := .lifted ["publicsums"], apart := false }
def FnParseSupervisorWholeSaid : Prop := fnParseSupervisorWholeRow.holds Trym.pinned (OpenSpec.ofChange fnParseSupervisorWholeSpec)

/-- ITS FALSE NEIGHBOUR: 'it returns false'. Refute it at one input. -/
def fnParseSupervisorWholeWrong : ChangeSpec := { name := "fnParseSupervisorWhole", fn := fun _ => fun
  | [d] => { results := [.lit (.bool false)], args := [d] }
  | _ => none }
def FnParseSupervisorWholeWrongFalsely : Prop := fnParseSupervisorWholeRow.holds Trym.pinned (OpenSpec.ofChange fnParseSupervisorWholeWrong)

/-- 'zzlaws_runsc_b1.FnParseSupervisorRoundTrip': WHATEVER THE INPUT: true; the input reads as it did. -/
def fnParseSupervisorRoundTripSpec : ChangeSpec := { name := "fnParseSupervisorRoundTrip", fn := fun _ => fun
  | [d1, d2, d3, d4] => { results := [.lit (.bool true)], args := [d1, d2, d3, d4] }
  | _ => none }
def fnParseSupervisorRoundTripRow : OpenClaim := { program := "qxb6600665amods", sum := "8ef1967ba858a76015a42dee5cfc0f22f5983233e08df2ad5ec1980ca0db1959", func := "example.com/napshot/napshot/zzlaws_runsc_b1.FnParseSupervisorRoundTrip", spec := "fnParseSupervisorRoundTrip", make := .lifted ["publicsums"], apart := false }
def FnParseSupervisorRoundTripSaid : Prop := fnParseSupervisorRoundTripRow.holds Trym.pinned (OpenSpec.ofChange fnParseSupervisorRoundTripSpec)

/-- ITS FALSE NEIGHBOUR: 'it returns false'. Refute it at one input. -/
def fnParseSupervisorRoundTripWrong : ChangeSpec := { name := "fnParseSupervisorRoundTrip", fn := fun _ => fun
  | [d1, d2, d3, d4] => { results := [.lit (.bool false)], args := [d1, d2, d3, d4] }
  | _ => none }
def FnParseSupervisorRoundTripWrongFalsely : Prop := fnParseSupervisorRoundTripRow.holds Trym.pinned (OpenSpec.ofChange fnParseSupervisorRoundTripWrong)

end Rows
end Go.Proofs.Qxb6600665aMods
