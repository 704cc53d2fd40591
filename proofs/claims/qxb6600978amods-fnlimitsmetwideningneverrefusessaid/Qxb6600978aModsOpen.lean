import Derived.Test.Qxb6600978aModsSizes
import Derived.SliceStrings
import Derived.Deep.Slices
namespace Go.Proofs.Qxb6600978aMods
open Go.RowKit Go.ChangeShapes

section
variable {H : Type} {enc : TypeId × Value → H} {W : World}

theorem strs_of {fuel : Nat} {a : Option Addr} {n c : Nat} {x : DataW H × List MemPlace} (hf : DataW.trod enc Trym.prog W 0 (fun _ => true) true fuel 22 [.slice a n c] = some x) :
    n ≤ 9223372036854775807 ∧ ∃ s, Strs W a n s := by
  rcases open_strings Trym.underlying22 Trym.underlying9 (by kernel_rfl) hf with ⟨hcs, _⟩ | ⟨y, l, cap, ss, hcs, _, hl, hm, hz, _, hcell, hsz⟩
  · simp at hcs
    obtain ⟨rfl, rfl, rfl⟩ := hcs
    exact ⟨by omega, fun _ => ByteArray.empty, 0, 0, fun h => absurd h (Nat.lt_irrefl _), fun i hi => absurd hi (Nat.not_lt_zero _)⟩
  · simp at hcs
    obtain ⟨rfl, rfl, rfl⟩ := hcs
    simp only [if_true] at hz
    unfold maxLen at *
    refine ⟨by omega, fun i => ss.getD i ByteArray.empty, ?_⟩
    rcases Nat.eq_zero_or_pos n with h0 | hp
    · exact ⟨0, 0, fun h => by omega, fun i hi => by omega⟩
    · obtain ⟨b, off, spot⟩ := y
      have hspot : spot = none := by simpa [Addr.add] using World.cell?_spot (hcell 0 (by omega))
      subst hspot
      refine ⟨b, off, fun _ => rfl, fun i hi => ⟨?_, ?_⟩⟩
      · rw [← Go.WideShapes.add_plain]; exact hcell i (by omega)
      · have hi' : i < ss.length := by omega
        have := hsz _ (List.getElem_mem hi')
        simpa [List.getD, List.getElem?_eq_getElem hi'] using this

theorem grid_of {fuel : Nat} {a : Option Addr} {n c : Nat} {x : DataW H × List MemPlace} (hf : DataW.trod enc Trym.prog W 0 (fun _ => true) true fuel 23 [.slice a n c] = some x) :
    n ≤ 9223372036854775807 ∧ ∃ A L C S, Grid W a n A L C S := by
  rcases Go.Deep.open_slice1 Trym.underlying23 (by kernel_rfl) hf with ⟨hcs, _⟩ | ⟨y, l, cap, m, fu, V, D, Pl, hcs, _, hl, hm, hmm, _, hx⟩
  · simp at hcs
    obtain ⟨rfl, rfl, rfl⟩ := hcs
    exact ⟨by omega, fun _ => none, fun _ => 0, fun _ => 0, fun _ _ => ByteArray.empty, 0, 0, fun h => absurd h (Nat.lt_irrefl _), fun i hi => absurd hi (Nat.not_lt_zero _)⟩
  · simp at hcs
    obtain ⟨rfl, rfl, rfl⟩ := hcs
    simp only [if_true] at hmm
    subst hmm
    unfold maxLen at *
    refine ⟨by omega, ?_⟩
    obtain ⟨f, hf'⟩ := Go.Deep.choose_lt (α := Option Addr × Nat × Nat × (Nat → ByteArray)) (n := n) (p := fun i q => V i = .slice q.1 q.2.1 q.2.2.1 ∧ q.2.1 ≤ 9223372036854775807 ∧ Strs W q.1 q.2.1 q.2.2.2) (fun i hi => by
      have ht := (hx i (by omega)).2
      rcases Go.Deep.open_slice Trym.underlying22 ht with ⟨hcs, _⟩ | ⟨y', l', cap', _, _, _, _, hcs, _⟩
      · have e : V i = .slice none 0 0 := by simpa using hcs
        rw [e] at ht
        obtain ⟨h1, s, h2⟩ := strs_of ht
        exact ⟨(none, 0, 0, s), e, h1, h2⟩
      · have e : V i = .slice (some y') l' cap' := by simpa using hcs
        rw [e] at ht
        obtain ⟨h1, s, h2⟩ := strs_of ht
        exact ⟨(some y', l', cap', s), e, h1, h2⟩)
    refine ⟨fun i => (f i).1, fun i => (f i).2.1, fun i => (f i).2.2.1, fun i => (f i).2.2.2, ?_⟩
    rcases Nat.eq_zero_or_pos n with h0 | hp
    · exact ⟨0, 0, fun h => by omega, fun i hi => by omega⟩
    · obtain ⟨b, off, spot⟩ := y
      have hspot : spot = none := by simpa [Addr.add] using World.cell?_spot (hx 0 (by omega)).1
      subst hspot
      refine ⟨b, off, fun _ => rfl, fun i hi => ⟨?_, (hf' i hi).2⟩⟩
      rw [← Go.WideShapes.add_plain, ← (hf' i hi).1]
      exact (hx i (by omega)).1
end
end Go.Proofs.Qxb6600978aMods
