/-
  THE PROOF OF 'Rows.FnCloneGrantReadsAsOriginalSaid': the frame after the guide's template (howto/template, howto/shells) at this function's number and types; the walk: Qxb6600978aModsLawC.
-/
import Derived.Test.Qxb6600978aModsRows
import Derived.WalkKit
import Derived.ProofKit
import Derived.OpenShut
import Derived.ShutString
import Derived.ChangeOld
import Derived.Below
import Derived.Test.Qxb6600978aModsOpen
import Derived.Test.Qxb6600978aModsLawC
namespace Go.Proofs.Qxb6600978aMods.fnCloneGrantReadsAsOriginal
open Go.ChangeShapes Go.WideShapes Go.ChangeAt Go.RowKit
open Go.ChangeMaps (open_string shut_string)
set_option linter.unusedVariables false

theorem own : ownKnob Trym.prog.godebug = none := by kernel_rfl
theorem laidOut : laidOutB Trym.prog = true := by kernel_rfl

set_option maxRecDepth 100000 in
theorem lifted (os : Os) (started : os.Started) (H : Type) (enc : TypeId × Value → H) :
    ReturnsInHanded {} Trym.checked os 5 .any (Rows.fnCloneGrantReadsAsOriginalSpec.pre6 enc Trym.prog Trym.f5 Rows.fnCloneGrantReadsAsOriginalRow.domain false) (Rows.fnCloneGrantReadsAsOriginalSpec.post enc Trym.prog Trym.f5 false true false false) := by
  refine returnsInHanded_of_change (C := Trym.checked) own started (by kernel_rfl) Trym.func5
    (ChangeSpec.witness6 (enc := enc) (C := Trym.checked) false ⟨#[], #[.string ByteArray.empty, .slice none 0 0, .slice none 0 0, .slice none 0 0, .slice none 0 0, .bool false], []⟩ 8 (by kernel_rfl) (by kernel_rfl) (by kernel_rfl) (by kernel_rfl)) ?_
  intro W base args ds gs before hval0 hW hcnd _
  have hval : ∀ (j : Nat) t v, Trym.f5.params[j]? = some t → args[j]? = some v → Value.okWide Trym.prog W .any base t v := hval0
  have hW' := hW
  obtain ⟨p, q, hA0, hV, rfl, hfz, hnd⟩ := hW
  have hA : DataW.TrodAll enc Trym.prog W 0 (fun _ => true) true Trym.f5.params.toList args.toList ds p := hA0
  rw [Trym.params5] at hA hval
  obtain ⟨v0, vs0, d0, ds0, p0, q0, hargs, rfl, rfl, h0, r0⟩ := trodAll_cons hA
  obtain ⟨v1, vs1, d1, ds1, p1, q1, rfl, rfl, rfl, h1, r1⟩ := trodAll_cons r0
  obtain ⟨v2, vs2, d2, ds2, p2, q2, rfl, rfl, rfl, h2, r2⟩ := trodAll_cons r1
  obtain ⟨v3, vs3, d3, ds3, p3, q3, rfl, rfl, rfl, h3, r3⟩ := trodAll_cons r2
  obtain ⟨v4, vs4, d4, ds4, p4, q4, rfl, rfl, rfl, h4, r4⟩ := trodAll_cons r3
  obtain ⟨v5, vs5, d5, ds5, p5, q5, rfl, rfl, rfl, h5, r5⟩ := trodAll_cons r4
  obtain ⟨rfl, rfl, rfl⟩ := trodAll_nil r5
  obtain rfl : args = #[v0, v1, v2, v3, v4, v5] := by cases args; simp_all
  obtain ⟨rfl, rfl⟩ := trodVars_none hV
  obtain ⟨a0, rfl, rfl, rfl, w0⟩ := open_string Trym.underlying9 (hval 0 9 v0 rfl rfl) h0
  obtain ⟨a1, n1, c1, rfl⟩ := okWide_slice Trym.underlying22 (hval 1 22 v1 rfl rfl)
  obtain ⟨a2, n2, c2, rfl⟩ := okWide_slice Trym.underlying22 (hval 2 22 v2 rfl rfl)
  obtain ⟨a3, n3, c3, rfl⟩ := okWide_slice Trym.underlying22 (hval 3 22 v3 rfl rfl)
  obtain ⟨a4, n4, c4, rfl⟩ := okWide_slice Trym.underlying23 (hval 4 23 v4 rfl rfl)
  obtain ⟨bo, rfl, rfl, rfl⟩ := open_bool Trym.underlying4 (hval 5 4 v5 rfl rfl) h5
  have k1 := h1
  have k2 := h2
  have k3 := h3
  have k4 := h4
  have lt1 : ∀ x ∈ p1, x.block < W.heap.size := by obtain ⟨m, hm⟩ := k1; exact DataW.trod_lt m _ _ _ hm
  have lt2 : ∀ x ∈ p2, x.block < W.heap.size := by obtain ⟨m, hm⟩ := k2; exact DataW.trod_lt m _ _ _ hm
  have lt3 : ∀ x ∈ p3, x.block < W.heap.size := by obtain ⟨m, hm⟩ := k3; exact DataW.trod_lt m _ _ _ hm
  have lt4 : ∀ x ∈ p4, x.block < W.heap.size := by obtain ⟨m, hm⟩ := k4; exact DataW.trod_lt m _ _ _ hm
  obtain ⟨l1, s1, w1⟩ : n1 ≤ 9223372036854775807 ∧ ∃ s, Strs W a1 n1 s := by obtain ⟨fuel, hf⟩ := h1; exact strs_of hf
  obtain ⟨l2, s2, w2⟩ : n2 ≤ 9223372036854775807 ∧ ∃ s, Strs W a2 n2 s := by obtain ⟨fuel, hf⟩ := h2; exact strs_of hf
  obtain ⟨l3, s3, w3⟩ : n3 ≤ 9223372036854775807 ∧ ∃ s, Strs W a3 n3 s := by obtain ⟨fuel, hf⟩ := h3; exact strs_of hf
  obtain ⟨l4, A, L, C, S, w4⟩ : n4 ≤ 9223372036854775807 ∧ ∃ A L C S, Grid W a4 n4 A L C S := by obtain ⟨fuel, hf⟩ := h4; exact grid_of hf
  clear hA0 hval0
  refine (lawC a0 a1 n1 c1 s1 a2 n2 c2 s2 a3 n3 c3 s3 a4 n4 c4 A L C S bo w0 l1 l2 l3 l4 W w1 w2 w3 w4).mono fun e W' ⟨he, bel⟩ => ?_
  subst he
  exact ⟨_, rfl, _, _, _, [], _, [], hW', trodAll_mk1 (shut_bool Trym.underlying4 _), (trodAll_cons_mk (shut_string Trym.underlying9 w0) (trodAll_cons_mk (Below.trod laidOut (by kernel_rfl) (of_decide_eq_true (by kernel_rfl)) k1 bel lt1) (trodAll_cons_mk (Below.trod laidOut (by kernel_rfl) (of_decide_eq_true (by kernel_rfl)) k2 bel lt2) (trodAll_cons_mk (Below.trod laidOut (by kernel_rfl) (of_decide_eq_true (by kernel_rfl)) k3 bel lt3) (trodAll_cons_mk (Below.trod laidOut (by kernel_rfl) (of_decide_eq_true (by kernel_rfl)) k4 bel lt4) (trodAll_cons_mk (shut_bool Trym.underlying4 _) trodAll_mk0)))))), rfl, bel.frame _, fun h => by cases h⟩

theorem over : Rows.fnCloneGrantReadsAsOriginalRow.holds Trym.pinned (OpenSpec.ofChange Rows.fnCloneGrantReadsAsOriginalSpec) :=
  OpenClaim.holds_of_wide 5 Trym.f5 rfl rfl rfl rfl rfl rfl rfl ⟨rfl, rfl, rfl, rfl, rfl⟩ rfl rfl rfl rfl rfl (by kernel_rfl) Trym.func5 (by kernel_rfl)
    (of_decide_eq_true (by kernel_rfl)) (by unfold Func.isWrapper; first | (rw [if_pos (by decide +kernel)]; kernel_rfl) | (rw [if_neg (by decide +kernel)]; exact ⟨rfl, rfl⟩))
    (fun os started H enc _ => lifted os started H enc)

/-- THE STATEMENT -/
theorem proved : Rows.FnCloneGrantReadsAsOriginalSaid := over
end Go.Proofs.Qxb6600978aMods.fnCloneGrantReadsAsOriginal
