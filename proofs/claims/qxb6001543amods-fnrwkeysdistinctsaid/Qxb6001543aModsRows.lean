/-
  No cell of these rows narrows 'for every input' (looked for: loops, veiled, ifaces, maps, wideKeys, modest, calm, conditions, laid).
  DERIVED. THE GIVEN ROWS OF THIS SEAT. 2 by the template 'for every input the law returns true; each argument reads behind the call as it read before'; 0 by the template 'total and deterministic' (their statements: Qxb6001543aModsTotals.lean).
  GIVEN WITH THE SEED: the statements are not yours to turn. If you find one false, say at which input.
  Laid BY PROGRAM, IN A SANDBOX (cutbox-rows.mjs): the forced cells as the released guide's own fill.sh prints them over the translation e09246c207ed1004… (all of the seat's roots in one cut). By AI agents, Wed Nov 11 2026. No macro, syntax, notation, axiom, sorry.
-/
import Derived.Test.Qxb6001543aModsChecked
import GoSem.Claim
import GoSem.ClaimJoined
import GoSem.ClaimMapViews
import Derived.JoinedTies
import Derived.KernelRfl
namespace Go.Proofs.Qxb6001543aMods
/- THE CELL 'sum', in the pinned program and in every row, IS THE sha256 OF THE DUMP (.gsa) THAT Qxb6001543aModsProg.lean LOADS. Nothing in Lean hashes anything: it is a label: what it is worth is what the hold of that sum in a sandbox is worth. -/
noncomputable def Trym.pinned : Pinned := { name := "qxb6001543amods", sum := "e09246c207ed1004796ca8242abac4e5b427474aefbf2b353bac463976a8d4c3", checked := Trym.checked }
namespace Rows
def none {H : Type} : Left H := { results := [], args := [] }

/-- 'zzlaws_root_b1.FnRwKeysDistinct': WHATEVER THE INPUT: true; the input reads as it did. -/
def fnRwKeysDistinctSpec : ChangeSpec := { name := "fnRwKeysDistinct", fn := fun _ => fun
  | [d] => { results := [.lit (.bool true)], args := [d] }
  | _ => none }
def fnRwKeysDistinctRow : OpenClaim := { program := "qxb6001543amods", sum := "e09246c207ed1004796ca8242abac4e5b427474aefbf2b353bac463976a8d4c3", func := "example.com/limpet/limpet/zzlaws_root_b1.FnRwKeysDistinct", spec := "fnRwKeysDistinct", make := .lifted ["publicsums"], apart := false }
def FnRwKeysDistinctSaid : Prop := fnRwKeysDistinctRow.holds Trym.pinned (OpenSpec.ofChange fnRwKeysDistinctSpec)

/-- ITS FALSE NEIGHBOUR: 'it returns false'. Refute it at one input. -/
def fnRwKeysDistinctWrong : ChangeSpec := { name := "fnRwKeysDistinct", fn := fun _ => fun
  | [d] => { results := [.lit (.bool false)], args := [d] }
  | _ => none }
def FnRwKeysDistinctWrongFalsely : Prop := fnRwKeysDistinctRow.holds Trym.pinned (OpenSpec.ofChange fnRwKeysDistinctWrong)

/-- 'zzlaws_root_b1.FnRwKeysFixedSuffixes': WHATEVER THE INPUT: true; the input reads as it did. -/
def fnRwKeysFixedSuffixesSpec : ChangeSpec := { name := "fnRwKeysFixedSuffixes", fn := fun _ => fun
  | [d1, d2] => { results := [.lit (.bool true)], args := [d1, d2] }
  | _ => none }
def fnRwKeysFixedSuffixesRow : OpenClaim := { program := "qxb6001543amods", sum := "e09246c207ed1004796ca8242abac4e5b427474aefbf2b353bac463976a8d4c3", func := "example.com/limpet/limpet/zzlaws_root_b1.FnRwKeysFixedSuffixes", spec := "fnRwKeysFixedSuffixes", make := .lifted ["publicsums"], apart := false }
def FnRwKeysFixedSuffixesSaid : Prop := fnRwKeysFixedSuffixesRow.holds Trym.pinned (OpenSpec.ofChange fnRwKeysFixedSuffixesSpec)

/-- ITS FALSE NEIGHBOUR: 'it returns false'. Refute it at one input. -/
def fnRwKeysFixedSuffixesWrong : ChangeSpec := { name := "fnRwKeysFixedSuffixes", fn := fun _ => fun
  | [d1, d2] => { results := [.lit (.bool false)], args := [d1, d2] }
  | _ => none }
def FnRwKeysFixedSuffixesWrongFalsely : Prop := fnRwKeysFixedSuffixesRow.holds Trym.pinned (OpenSpec.ofChange fnRwKeysFixedSuffixesWrong)

end Rows
end Go.Proofs.Qxb6001543aMods
