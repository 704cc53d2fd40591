/-
  No cell of these rows narrows 'for every input' (looked for: loops, veiled, ifaces, maps, wideKeys, modest, calm, conditions, laid).
  DERIVED. THE GIVEN ROWS OF THIS SEAT. 3 by the template 'for every input the law returns true; each argument reads behind the call as it read before'; 0 by the template 'total and deterministic' (their statements: Qxb6600978aModsTotals.lean).
  GIVEN WITH THE SEED: the statements are not yours to turn. If you find one false, say at which input.
  Laid BY PROGRAM, IN A SANDBOX (cutbox-rows.mjs): the forced cells as the released guide's own fill.sh prints them over the translation 7ee6ce0e8f580acc… (all of the seat's roots in one cut). By AI agents, Wed Nov 11 2026. No macro, syntax, notation, axiom, sorry.
-/
import Derived.Test.Qxb6600978aModsChecked
import GoSem.Claim
import GoSem.ClaimJoined
import GoSem.ClaimMapViews
import Derived.JoinedTies
import Derived.KernelRfl
namespace Go.Proofs.Qxb6600978aMods
/- THE CELL 'sum', in the pinned program and in every row, IS THE sha256 OF THE DUMP (.gsa) THAT Qxb6600978aModsProg.lean LOADS. Nothing in Lean hashes anything: it is a label: what it is worth is what the hold of that sum in a sandbox is worth. -/
noncomputable def Trym.pinned : Pinned := { name := "qxb6600978amods", sum := "7ee6ce0e8f580accfc528ba3a845cc7b59a42dcbd9c8cd4d4fd48aa35b5c4f8a", checked := Trym.checked }
namespace Rows
def none {H : Type} : Left H := { results := [], args := [] }

/-- 'zzlaws_root_b1.FnLimitsMetSplitsOverAttributes': WHATEVER THE INPUT: true; the input reads as it did. -/
def fnLimitsMetSplitsOverAttributesSpec : ChangeSpec := { name := "fnLimitsMetSplitsOverAttributes", fn := fun _ => fun
  | [d1, d2, d3, d4, d5, d6] => { results := [.lit (.bool true)], args := [d1, d2, d3, d4, d5, d6] }
  | _ => none }
def fnLimitsMetSplitsOverAttributesRow : OpenClaim := { program := "qxb6600978amods", sum := "7ee6ce0e8f580accfc528ba3a845cc7b59a42dcbd9c8cd4d4fd48aa35b5c4f8a", func := "example.com/entitlement/entitlement/zzlaws_root_b1.FnLimitsMetSplitsOverAttributes", spec := "fnLimitsMetSplitsOverAttributes", make := .lifted ["publicsums"], apart := false }
def FnLimitsMetSplitsOverAttributesSaid : Prop := fnLimitsMetSplitsOverAttributesRow.holds Trym.pinned (OpenSpec.ofChange fnLimitsMetSplitsOverAttributesSpec)

/-- ITS FALSE NEIGHBOUR: 'it returns false'. Refute it at one input. -/
def fnLimitsMetSplitsOverAttributesWrong : ChangeSpec := { name := "fnLimitsMetSplitsOverAttributes", fn := fun _ => fun
  | [d1, d2, d3, d4, d5, d6] => { results := [.lit (.bool false)], args := [d1, d2, d3, d4, d5, d6] }
  | _ => none }
def FnLimitsMetSplitsOverAttributesWrongFalsely : Prop := fnLimitsMetSplitsOverAttributesRow.holds Trym.pinned (OpenSpec.ofChange fnLimitsMetSplitsOverAttributesWrong)

/-- 'zzlaws_root_b1.FnLimitsMetWideningNeverRefuses': WHATEVER THE INPUT: true; the input reads as it did. -/
def fnLimitsMetWideningNeverRefusesSpec : ChangeSpec := { name := "fnLimitsMetWideningNeverRefuses", fn := fun _ => fun
  | [d1, d2, d3, d4, d5, d6, d7] => { results := [.lit (.bool true)], args := [d1, d2, d3, d4, d5, d6, d7] }
  | _ => none }
def fnLimitsMetWideningNeverRefusesRow : OpenClaim := { program := "qxb6600978amods", sum := "7ee6ce0e8f580accfc528ba3a845cc7b59a42dcbd9c8cd4d4fd48aa35b5c4f8a", func := "example.com/entitlement/entitlement/zzlaws_root_b1.FnLimitsMetWideningNeverRefuses", spec := "fnLimitsMetWideningNeverRefuses", make := .lifted ["publicsums"], apart := false }
def FnLimitsMetWideningNeverRefusesSaid : Prop := fnLimitsMetWideningNeverRefusesRow.holds Trym.pinned (OpenSpec.ofChange fnLimitsMetWideningNeverRefusesSpec)

/-- ITS FALSE NEIGHBOUR: 'it returns false'. Refute it at one input. -/
def fnLimitsMetWideningNeverRefusesWrong : ChangeSpec := { name := "fnLimitsMetWideningNeverRefuses", fn := fun _ => fun
  | [d1, d2, d3, d4, d5, d6, d7] => { results := [.lit (.bool false)], args := [d1, d2, d3, d4, d5, d6, d7] }
  | _ => none }
def FnLimitsMetWideningNeverRefusesWrongFalsely : Prop := fnLimitsMetWideningNeverRefusesRow.holds Trym.pinned (OpenSpec.ofChange fnLimitsMetWideningNeverRefusesWrong)

/-- 'zzlaws_root_b1.FnCloneGrantReadsAsOriginal': WHATEVER THE INPUT: true; the input reads as it did. -/
def fnCloneGrantReadsAsOriginalSpec : ChangeSpec := { name := "fnCloneGrantReadsAsOriginal", fn := fun _ => fun
  | [d1, d2, d3, d4, d5, d6] => { results := [.lit (.bool true)], args := [d1, d2, d3, d4, d5, d6] }
  | _ => none }
def fnCloneGrantReadsAsOriginalRow : OpenClaim := { program := "qxb6600978amods", sum := "7ee6ce0e8f580accfc528ba3a845cc7b59a42dcbd9c8cd4d4fd48aa35b5c4f8a", func := "example.com/entitlement/entitlement/zzlaws_root_b1.FnCloneGrantReadsAsOriginal", spec := "fnCloneGrantReadsAsOriginal", make := .lifted ["publicsums"], apart := false }
def FnCloneGrantReadsAsOriginalSaid : Prop := fnCloneGrantReadsAsOriginalRow.holds Trym.pinned (OpenSpec.ofChange fnCloneGrantReadsAsOriginalSpec)

/-- ITS FALSE NEIGHBOUR: 'it returns false'. Refute it at one input. -/
def fnCloneGrantReadsAsOriginalWrong : ChangeSpec := { name := "fnCloneGrantReadsAsOriginal", fn := fun _ => fun
  | [d1, d2, d3, d4, d5, d6] => { results := [.lit (.bool false)], args := [d1, d2, d3, d4, d5, d6] }
  | _ => none }
def FnCloneGrantReadsAsOriginalWrongFalsely : Prop := fnCloneGrantReadsAsOriginalRow.holds Trym.pinned (OpenSpec.ofChange fnCloneGrantReadsAsOriginalWrong)

end Rows
end Go.Proofs.Qxb6600978aMods
