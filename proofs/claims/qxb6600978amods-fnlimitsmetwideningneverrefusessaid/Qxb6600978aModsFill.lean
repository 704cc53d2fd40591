import Derived.Test.Qxb6600978aModsSteps
namespace Go.Proofs.Qxb6600978aMods
open Go.RowKit Go.Maps

theorem fill_isMap (ks : Nat → ByteArray) (vs : Nat → Value) : ∀ n, IsMap (fill ks vs n)
  | 0 => isMap_empty
  | n + 1 => (fill_isMap ks vs n).put _ _
/-- Every key of the list is there. -/
theorem fill_has (ks : Nat → ByteArray) (vs : Nat → Value) : ∀ n i, i < n → has (fill ks vs n) (key (ks i)) = true
  | 0, i, h => absurd h (Nat.not_lt_zero _)
  | n + 1, i, h => by
    by_cases e : key (ks i) = key (ks n)
    · rw [e]; exact has_put_same (fill_isMap ks vs n) (key_lit _) _
    · show has ((fill ks vs n).put _ _) _ = true
      rw [has_put_other e]
      refine fill_has ks vs n i ?_
      rcases Nat.lt_or_ge i n with h' | h'
      · exact h'
      · obtain rfl : i = n := by omega
        exact absurd rfl e
/-- Whatever is there is one of the list's. -/
theorem fill_at (ks : Nat → ByteArray) (vs : Nat → Value) : ∀ n kl, has (fill ks vs n) kl = true → ∃ j, j < n ∧ ∀ z, (fill ks vs n).atKey kl z = .held (vs j)
  | 0, kl, h => by cases h
  | n + 1, kl, h => by
    by_cases e : kl = key (ks n)
    · subst e
      exact ⟨n, Nat.lt_succ_self _, fun z => atKey_put_same (fill_isMap ks vs n) (key_lit _) _ z⟩
    · have h' : has ((fill ks vs n).put (key (ks n)) (.held (vs n))) kl = true := h
      rw [has_put_other e] at h'
      obtain ⟨j, hj, hz⟩ := fill_at ks vs n kl h'
      exact ⟨j, by omega, fun z => (atKey_put_other e _ z).trans (hz z)⟩
end Go.Proofs.Qxb6600978aMods
