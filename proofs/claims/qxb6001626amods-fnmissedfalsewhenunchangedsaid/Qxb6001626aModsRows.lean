/-
  No cell of these rows narrows 'for every input' (looked for: loops, veiled, ifaces, maps, wideKeys, modest, calm, conditions, laid).
  DERIVED. THE GIVEN ROWS OF THIS SEAT. 3 by the template 'for every input the law returns true; each argument reads behind the call as it read before'; 0 by the template 'total and deterministic' (their statements: Qxb6001626aModsTotals.lean).
  GIVEN WITH THE SEED: the statements are not yours to turn. If you find one false, say at which input.
  Laid BY PROGRAM, IN A SANDBOX (cutbox-rows.mjs): the forced cells as the released guide's own fill.sh prints them over the translation 050d15b27969d436… (all of the seat's roots in one cut). By AI agents, Wed Nov 11 2026. No macro, syntax, notation, axiom, sorry.
-/
import Derived.Test.Qxb6001626aModsChecked
import GoSem.Claim
import GoSem.ClaimJoined
import GoSem.ClaimMapViews
import Derived.JoinedTies
import Derived.KernelRfl
namespace Go.Proofs.Qxb6001626aMods
/- THE CELL 'sum', in the pinned program and in every row, IS THE sha256 OF THE DUMP (.gsa) THAT Qxb6001626aModsProg.lean LOADS. Nothing in Lean hashes anything: it is a label: what it is worth is what the hold of that sum in a sandbox is worth. -/
noncomputable def Trym.pinned : Pinned := { name := "qxb6001626amods", sum := "050d15b27969d436ad182ab7d9ce341f5485fc174ca8c016d0821dd27539d7f1", checked := Trym.checked }
namespace Rows
def none {H : Type} : Left H := { results := [], args := [] }

/-- 'zzlaws_root_b1.FnMissedFalseWhenUnchanged': WHATEVER THE INPUT: true; the input reads as it did. -/
def fnMissedFalseWhenUnchangedSpec : ChangeSpec := { name := "fnMissedFalseWhenUnchanged", fn := fun _ => fun
  | [d] => { results := [.lit (.bool true)], args := [d] }
  | _ => none }
def fnMissedFalseWhenUnchangedRow : OpenClaim := { program := "qxb6001626amods", sum := "050d15b27969d436ad182ab7d9ce341f5485fc174ca8c016d0821dd27539d7f1", func := "example.com/holdfast/holdfast/zzlaws_root_b1.FnMissedFalseWhenUnchanged", spec := "fnMissedFalseWhenUnchanged", make := .lifted ["publicsums"], apart := false }
def FnMissedFalseWhenUnchangedSaid : Prop := fnMissedFalseWhenUnchangedRow.holds Trym.pinned (OpenSpec.ofChange fnMissedFalseWhenUnchangedSpec)

/-- ITS FALSE NEIGHBOUR: 'it returns false'. Refute it at one input. -/
def fnMissedFalseWhenUnchangedWrong : ChangeSpec := { name := "fnMissedFalseWhenUnchanged", fn := fun _ => fun
  | [d] => { results := [.lit (.bool false)], args := [d] }
  | _ => none }
def FnMissedFalseWhenUnchangedWrongFalsely : Prop := fnMissedFalseWhenUnchangedRow.holds Trym.pinned (OpenSpec.ofChange fnMissedFalseWhenUnchangedWrong)

/-- 'zzlaws_root_b1.FnMissedSplitsOverServers': WHATEVER THE INPUT: true; the input reads as it did. -/
def fnMissedSplitsOverServersSpec : ChangeSpec := { name := "fnMissedSplitsOverServers", fn := fun _ => fun
  | [d1, d2, d3] => { results := [.lit (.bool true)], args := [d1, d2, d3] }
  | _ => none }
def fnMissedSplitsOverServersRow : OpenClaim := { program := "qxb6001626amods", sum := "050d15b27969d436ad182ab7d9ce341f5485fc174ca8c016d0821dd27539d7f1", func := "example.com/holdfast/holdfast/zzlaws_root_b1.FnMissedSplitsOverServers", spec := "fnMissedSplitsOverServers", make := .lifted ["publicsums"], apart := false }
def FnMissedSplitsOverServersSaid : Prop := fnMissedSplitsOverServersRow.holds Trym.pinned (OpenSpec.ofChange fnMissedSplitsOverServersSpec)

/-- ITS FALSE NEIGHBOUR: 'it returns false'. Refute it at one input. -/
def fnMissedSplitsOverServersWrong : ChangeSpec := { name := "fnMissedSplitsOverServers", fn := fun _ => fun
  | [d1, d2, d3] => { results := [.lit (.bool false)], args := [d1, d2, d3] }
  | _ => none }
def FnMissedSplitsOverServersWrongFalsely : Prop := fnMissedSplitsOverServersRow.holds Trym.pinned (OpenSpec.ofChange fnMissedSplitsOverServersWrong)

/-- 'zzlaws_root_b1.FnMissedIgnoresBeforeWhereAfterZero': WHATEVER THE INPUT: true; the input reads as it did. -/
def fnMissedIgnoresBeforeWhereAfterZeroSpec : ChangeSpec := { name := "fnMissedIgnoresBeforeWhereAfterZero", fn := fun _ => fun
  | [d1, d2, d3, d4] => { results := [.lit (.bool true)], args := [d1, d2, d3, d4] }
  | _ => none }
def fnMissedIgnoresBeforeWhereAfterZeroRow : OpenClaim := { program := "qxb6001626amods", sum := "050d15b27969d436ad182ab7d9ce341f5485fc174ca8c016d0821dd27539d7f1", func := "example.com/holdfast/holdfast/zzlaws_root_b1.FnMissedIgnoresBeforeWhereAfterZero", spec := "fnMissedIgnoresBeforeWhereAfterZero", make := .lifted ["publicsums"], apart := false }
def FnMissedIgnoresBeforeWhereAfterZeroSaid : Prop := fnMissedIgnoresBeforeWhereAfterZeroRow.holds Trym.pinned (OpenSpec.ofChange fnMissedIgnoresBeforeWhereAfterZeroSpec)

/-- ITS FALSE NEIGHBOUR: 'it returns false'. Refute it at one input. -/
def fnMissedIgnoresBeforeWhereAfterZeroWrong : ChangeSpec := { name := "fnMissedIgnoresBeforeWhereAfterZero", fn := fun _ => fun
  | [d1, d2, d3, d4] => { results := [.lit (.bool false)], args := [d1, d2, d3, d4] }
  | _ => none }
def FnMissedIgnoresBeforeWhereAfterZeroWrongFalsely : Prop := fnMissedIgnoresBeforeWhereAfterZeroRow.holds Trym.pinned (OpenSpec.ofChange fnMissedIgnoresBeforeWhereAfterZeroWrong)

end Rows
end Go.Proofs.Qxb6001626aMods
