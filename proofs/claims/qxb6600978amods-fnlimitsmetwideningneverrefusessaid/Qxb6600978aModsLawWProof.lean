/-
  THE PROOF OF 'Rows.FnLimitsMetWideningNeverRefusesSaid': the frame after the guide's template (howto/template, howto/shells) at this function's number and types; the walk: Qxb6600978aModsLawW.
-/
import Derived.Test.Qxb6600978aModsRows
import Derived.WalkKit
import Derived.ProofKit
import Derived.OpenShut
import Derived.ShutString
import Derived.ChangeOld
import Derived.Below
import Derived.Test.Qxb6600978aModsOpen
import Derived.Test.Qxb6600978aModsLawW
namespace Go.Proofs.Qxb6600978aMods.fnLimitsMetWideningNeverRefuses
open Go.ChangeShapes Go.WideShapes Go.ChangeAt Go.RowKit
open Go.ChangeMaps (open_string shut_string)
set_option linter.unusedVariables false

theorem own : ownKnob Trym.prog.godebug = none := by kernel_rfl
theorem laidOut : laidOutB Trym.prog = true := by kernel_rfl

set_option maxRecDepth 100000 in
theorem lifted (os : Os) (started : os.Started) (H : Type) (enc : TypeId × Value → H) :
    ReturnsInHanded {} Trym.checked os 4 .any (Rows.fnLimitsMetWideningNeverRefusesSpec.pre6 enc Trym.prog Trym.f4 Rows.fnLimitsMetWideningNeverRefusesRow.domain false) (Rows.fnLimitsMetWideningNeverRefusesSpec.post enc Trym.prog Trym.f4 false true false false) := by
  refine returnsInHanded_of_change (C := Trym.checked) own started (by kernel_rfl) Trym.func4
    (ChangeSpec.witness6 (enc := enc) (C := Trym.checked) false ⟨#[], #[.slice none 0 0, .slice none 0 0, .slice none 0 0, .slice none 0 0, .slice none 0 0, .int .i64 0, .string ByteArray.empty], []⟩ 8 (by kernel_rfl) (by kernel_rfl) (by kernel_rfl) (by kernel_rfl)) ?_
  intro W base args ds gs before hval0 hW hcnd _
  have hval : ∀ (j : Nat) t v, Trym.f4.params[j]? = some t → args[j]? = some v → Value.okWide Trym.prog W .any base t v := hval0
  have hW' := hW
  obtain ⟨p, q, hA0, hV, rfl, hfz, hnd⟩ := hW
  have hA : DataW.TrodAll enc Trym.prog W 0 (fun _ => true) true Trym.f4.params.toList args.toList ds p := hA0
  rw [Trym.params4] at hA hval
  obtain ⟨v0, vs0, d0, ds0, p0, q0, hargs, rfl, rfl, h0, r0⟩ := trodAll_cons hA
  obtain ⟨v1, vs1, d1, ds1, p1, q1, rfl, rfl, rfl, h1, r1⟩ := trodAll_cons r0
  obtain ⟨v2, vs2, d2, ds2, p2, q2, rfl, rfl, rfl, h2, r2⟩ := trodAll_cons r1
  obtain ⟨v3, vs3, d3, ds3, p3, q3, rfl, rfl, rfl, h3, r3⟩ := trodAll_cons r2
  obtain ⟨v4, vs4, d4, ds4, p4, q4, rfl, rfl, rfl, h4, r4⟩ := trodAll_cons r3
  obtain ⟨v5, vs5, d5, ds5, p5, q5, rfl, rfl, rfl, h5, r5⟩ := trodAll_cons r4
  obtain ⟨v6, vs6, d6, ds6, p6, q6, rfl, rfl, rfl, h6, r6⟩ := trodAll_cons r5
  obtain ⟨rfl, rfl, rfl⟩ := trodAll_nil r6
  obtain rfl : args = #[v0, v1, v2, v3, v4, v5, v6] := by cases args; simp_all
  obtain ⟨rfl, rfl⟩ := trodVars_none hV
  obtain ⟨a0, n0, c0, rfl⟩ := okWide_slice Trym.underlying22 (hval 0 22 v0 rfl rfl)
  obtain ⟨a1, n1, c1, rfl⟩ := okWide_slice Trym.underlying22 (hval 1 22 v1 rfl rfl)
  obtain ⟨a2, n2, c2, rfl⟩ := okWide_slice Trym.underlying23 (hval 2 23 v2 rfl rfl)
  obtain ⟨a3, n3, c3, rfl⟩ := okWide_slice Trym.underlying22 (hval 3 22 v3 rfl rfl)
  obtain ⟨a4, n4, c4, rfl⟩ := okWide_slice Trym.underlying22 (hval 4 22 v4 rfl rfl)
  obtain ⟨a5, rfl, rfl, rfl, w5⟩ := open_int Trym.underlying3 (hval 5 3 v5 rfl rfl) h5
  obtain ⟨a6, rfl, rfl, rfl, w6⟩ := open_string Trym.underlying9 (hval 6 9 v6 rfl rfl) h6
  have k0 := h0
  have k1 := h1
  have k2 := h2
  have k3 := h3
  have k4 := h4
  have lt0 : ∀ x ∈ p0, x.block < W.heap.size := by obtain ⟨m, hm⟩ := k0; exact DataW.trod_lt m _ _ _ hm
  have lt1 : ∀ x ∈ p1, x.block < W.heap.size := by obtain ⟨m, hm⟩ := k1; exact DataW.trod_lt m _ _ _ hm
  have lt2 : ∀ x ∈ p2, x.block < W.heap.size := by obtain ⟨m, hm⟩ := k2; exact DataW.trod_lt m _ _ _ hm
  have lt3 : ∀ x ∈ p3, x.block < W.heap.size := by obtain ⟨m, hm⟩ := k3; exact DataW.trod_lt m _ _ _ hm
  have lt4 : ∀ x ∈ p4, x.block < W.heap.size := by obtain ⟨m, hm⟩ := k4; exact DataW.trod_lt m _ _ _ hm
  obtain ⟨l0, s0, w0⟩ : n0 ≤ 9223372036854775807 ∧ ∃ s, Strs W a0 n0 s := by obtain ⟨fuel, hf⟩ := h0; exact strs_of hf
  obtain ⟨l1, s1, w1⟩ : n1 ≤ 9223372036854775807 ∧ ∃ s, Strs W a1 n1 s := by obtain ⟨fuel, hf⟩ := h1; exact strs_of hf
  obtain ⟨l2, A, L, C, S, w2⟩ : n2 ≤ 9223372036854775807 ∧ ∃ A L C S, Grid W a2 n2 A L C S := by obtain ⟨fuel, hf⟩ := h2; exact grid_of hf
  obtain ⟨l3, s3, w3⟩ : n3 ≤ 9223372036854775807 ∧ ∃ s, Strs W a3 n3 s := by obtain ⟨fuel, hf⟩ := h3; exact strs_of hf
  obtain ⟨l4, s4, w4⟩ : n4 ≤ 9223372036854775807 ∧ ∃ s, Strs W a4 n4 s := by obtain ⟨fuel, hf⟩ := h4; exact strs_of hf
  clear hA0 hval0
  refine (lawW a0 n0 c0 s0 a1 n1 c1 s1 a2 n2 c2 A L C S a3 n3 c3 s3 a4 n4 c4 s4 a5 a6 l0 l1 l2 l3 l4 w6 W w0 w1 w2 w3 w4).mono fun e W' ⟨he, bel⟩ => ?_
  subst he
  exact ⟨_, rfl, _, _, _, [], _, [], hW', trodAll_mk1 (shut_bool Trym.underlying4 _), (trodAll_cons_mk (Below.trod laidOut (by kernel_rfl) (of_decide_eq_true (by kernel_rfl)) k0 bel lt0) (trodAll_cons_mk (Below.trod laidOut (by kernel_rfl) (of_decide_eq_true (by kernel_rfl)) k1 bel lt1) (trodAll_cons_mk (Below.trod laidOut (by kernel_rfl) (of_decide_eq_true (by kernel_rfl)) k2 bel lt2) (trodAll_cons_mk (Below.trod laidOut (by kernel_rfl) (of_decide_eq_true (by kernel_rfl)) k3 bel lt3) (trodAll_cons_mk (Below.trod laidOut (by kernel_rfl) (of_decide_eq_true (by kernel_rfl)) k4 bel lt4) (trodAll_cons_mk (shut_int Trym.underlying3 w5) (trodAll_cons_mk (shut_string Trym.underlying9 w6) trodAll_mk0))))))), rfl, bel.frame _, fun h => by cases h⟩

theorem over : Rows.fnLimitsMetWideningNeverRefusesRow.holds Trym.pinned (OpenSpec.ofChange Rows.fnLimitsMetWideningNeverRefusesSpec) :=
  OpenClaim.holds_of_wide 4 Trym.f4 rfl rfl rfl rfl rfl rfl rfl ⟨rfl, rfl, rfl, rfl, rfl⟩ rfl rfl rfl rfl rfl (by kernel_rfl) Trym.func4 (by kernel_rfl)
    (of_decide_eq_true (by kernel_rfl)) (by unfold Func.isWrapper; first | (rw [if_pos (by decide +kernel)]; kernel_rfl) | (rw [if_neg (by decide +kernel)]; exact ⟨rfl, rfl⟩))
    (fun os started H enc _ => lifted os started H enc)

/-- THE STATEMENT -/
theorem proved : Rows.FnLimitsMetWideningNeverRefusesSaid := over
end Go.Proofs.Qxb6600978aMods.fnLimitsMetWideningNeverRefuses
