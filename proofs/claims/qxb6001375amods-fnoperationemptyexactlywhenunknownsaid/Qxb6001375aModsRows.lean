/-
  No cell of these rows narrows 'for every input' (looked for: loops, veiled, ifaces, maps, wideKeys, modest, calm, conditions, laid).
  DERIVED. THE GIVEN ROWS OF THIS SEAT. 4 by the template 'for every input the law returns true; each argument reads behind the call as it read before'; 0 by the template 'total and deterministic' (their statements: Qxb6001375aModsTotals.lean).
  GIVEN WITH THE SEED: the statements are not yours to turn. If you find one false, say at which input.
  Laid BY PROGRAM, IN A SANDBOX (cutbox-rows.mjs): the forced cells as the released guide's own fill.sh prints them over the translation 71428bf6004ebca8… (all of the seat's roots in one cut). By AI agents, Wed Nov 11 2026. No macro, syntax, notation, axiom, sorry.
-/
import Derived.Test.Qxb6001375aModsChecked
import GoSem.Claim
import GoSem.ClaimJoined
import GoSem.ClaimMapViews
import Derived.JoinedTies
import Derived.KernelRfl
namespace Go.Proofs.Qxb6001375aMods
/- THE CELL 'sum', in the pinned program and in every row, IS THE sha256 OF THE DUMP (.gsa) THAT Qxb6001375aModsProg.lean LOADS. Nothing in Lean hashes anything: it is a label: what it is worth is what the hold of that sum in a sandbox is worth. -/
noncomputable def Trym.pinned : Pinned := { name := "qxb6001375amods", sum := "71428bf6004ebca89c14d4d8dd8a0ca60637c1cea7f83bf00a5204117e0002cf", checked := Trym.checked }
namespace Rows
def none {H : Type} : Left H := { results := [], args := [] }

/-- 'zzlaws_internal_awscall_b1.FnWhoNamesServiceThenEndpoint': WHATEVER THE INPUT: true; the input reads as it did. -/
def fnWhoNamesServiceThenEndpointSpec : ChangeSpec := { name := "fnWhoNamesServiceThenEndpoint", fn := fun _ => fun
  | [d1, d2, d3, d4] => { results := [.lit (.bool true)], args := [d1, d2, d3, d4] }
  | _ => none }
def fnWhoNamesServiceThenEndpointRow : OpenClaim := { program := "qxb6001375amods", sum := "71428bf6004ebca89c14d4d8dd8a0ca60637c1cea7f83bf00a5204117e0002cf", func := "example.com/mint-for-sandboxes/mint-for-sandboxes/zzlaws_internal_awscall_b1.FnWhoNamesServiceThenEndpoint", spec := "fnWhoNamesServiceThenEndpoint", make := .lifted ["publicsums"], apart := false }
def FnWhoNamesServiceThenEndpointSaid : Prop := fnWhoNamesServiceThenEndpointRow.holds Trym.pinned (OpenSpec.ofChange fnWhoNamesServiceThenEndpointSpec)

/-- ITS FALSE NEIGHBOUR: 'it returns false'. Refute it at one input. -/
def fnWhoNamesServiceThenEndpointWrong : ChangeSpec := { name := "fnWhoNamesServiceThenEndpoint", fn := fun _ => fun
  | [d1, d2, d3, d4] => { results := [.lit (.bool false)], args := [d1, d2, d3, d4] }
  | _ => none }
def FnWhoNamesServiceThenEndpointWrongFalsely : Prop := fnWhoNamesServiceThenEndpointRow.holds Trym.pinned (OpenSpec.ofChange fnWhoNamesServiceThenEndpointWrong)

/-- 'zzlaws_internal_awscall_b1.FnWhoIgnoresWhatWasAsked': WHATEVER THE INPUT: true; the input reads as it did. -/
def fnWhoIgnoresWhatWasAskedSpec : ChangeSpec := { name := "fnWhoIgnoresWhatWasAsked", fn := fun _ => fun
  | [d1, d2, d3, d4, d5, d6] => { results := [.lit (.bool true)], args := [d1, d2, d3, d4, d5, d6] }
  | _ => none }
def fnWhoIgnoresWhatWasAskedRow : OpenClaim := { program := "qxb6001375amods", sum := "71428bf6004ebca89c14d4d8dd8a0ca60637c1cea7f83bf00a5204117e0002cf", func := "example.com/mint-for-sandboxes/mint-for-sandboxes/zzlaws_internal_awscall_b1.FnWhoIgnoresWhatWasAsked", spec := "fnWhoIgnoresWhatWasAsked", make := .lifted ["publicsums"], apart := false }
def FnWhoIgnoresWhatWasAskedSaid : Prop := fnWhoIgnoresWhatWasAskedRow.holds Trym.pinned (OpenSpec.ofChange fnWhoIgnoresWhatWasAskedSpec)

/-- ITS FALSE NEIGHBOUR: 'it returns false'. Refute it at one input. -/
def fnWhoIgnoresWhatWasAskedWrong : ChangeSpec := { name := "fnWhoIgnoresWhatWasAsked", fn := fun _ => fun
  | [d1, d2, d3, d4, d5, d6] => { results := [.lit (.bool false)], args := [d1, d2, d3, d4, d5, d6] }
  | _ => none }
def FnWhoIgnoresWhatWasAskedWrongFalsely : Prop := fnWhoIgnoresWhatWasAskedRow.holds Trym.pinned (OpenSpec.ofChange fnWhoIgnoresWhatWasAskedWrong)

/-- 'zzlaws_internal_awscall_b1.FnOperationEmptyExactlyWhenUnknown': WHATEVER THE INPUT: true; the input reads as it did. -/
def fnOperationEmptyExactlyWhenUnknownSpec : ChangeSpec := { name := "fnOperationEmptyExactlyWhenUnknown", fn := fun _ => fun
  | [d1, d2, d3, d4] => { results := [.lit (.bool true)], args := [d1, d2, d3, d4] }
  | _ => none }
def fnOperationEmptyExactlyWhenUnknownRow : OpenClaim := { program := "qxb6001375amods", sum := "71428bf6004ebca89c14d4d8dd8a0ca60637c1cea7f83bf00a5204117e0002cf", func := "example.com/mint-for-sandboxes/mint-for-sandboxes/zzlaws_internal_awscall_b1.FnOperationEmptyExactlyWhenUnknown", spec := "fnOperationEmptyExactlyWhenUnknown", make := .lifted ["publicsums"], apart := false }
def FnOperationEmptyExactlyWhenUnknownSaid : Prop := fnOperationEmptyExactlyWhenUnknownRow.holds Trym.pinned (OpenSpec.ofChange fnOperationEmptyExactlyWhenUnknownSpec)

/-- ITS FALSE NEIGHBOUR: 'it returns false'. Refute it at one input. -/
def fnOperationEmptyExactlyWhenUnknownWrong : ChangeSpec := { name := "fnOperationEmptyExactlyWhenUnknown", fn := fun _ => fun
  | [d1, d2, d3, d4] => { results := [.lit (.bool false)], args := [d1, d2, d3, d4] }
  | _ => none }
def FnOperationEmptyExactlyWhenUnknownWrongFalsely : Prop := fnOperationEmptyExactlyWhenUnknownRow.holds Trym.pinned (OpenSpec.ofChange fnOperationEmptyExactlyWhenUnknownWrong)

/-- 'zzlaws_internal_awscall_b1.FnOperationIgnoresWhereSent': WHATEVER THE INPUT: true; the input reads as it did. -/
def fnOperationIgnoresWhereSentSpec : ChangeSpec := { name := "fnOperationIgnoresWhereSent", fn := fun _ => fun
  | [d1, d2, d3, d4, d5, d6] => { results := [.lit (.bool true)], args := [d1, d2, d3, d4, d5, d6] }
  | _ => none }
def fnOperationIgnoresWhereSentRow : OpenClaim := { program := "qxb6001375amods", sum := "71428bf6004ebca89c14d4d8dd8a0ca60637c1cea7f83bf00a5204117e0002cf", func := "example.com/mint-for-sandboxes/mint-for-sandboxes/zzlaws_internal_awscall_b1.FnOperationIgnoresWhereSent", spec := "fnOperationIgnoresWhereSent", make := .lifted ["publicsums"], apart := false }
def FnOperationIgnoresWhereSentSaid : Prop := fnOperationIgnoresWhereSentRow.holds Trym.pinned (OpenSpec.ofChange fnOperationIgnoresWhereSentSpec)

/-- ITS FALSE NEIGHBOUR: 'it returns false'. Refute it at one input. -/
def fnOperationIgnoresWhereSentWrong : ChangeSpec := { name := "fnOperationIgnoresWhereSent", fn := fun _ => fun
  | [d1, d2, d3, d4, d5, d6] => { results := [.lit (.bool false)], args := [d1, d2, d3, d4, d5, d6] }
  | _ => none }
def FnOperationIgnoresWhereSentWrongFalsely : Prop := fnOperationIgnoresWhereSentRow.holds Trym.pinned (OpenSpec.ofChange fnOperationIgnoresWhereSentWrong)

end Rows
end Go.Proofs.Qxb6001375aMods
