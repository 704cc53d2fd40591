import Derived.Test.Qxb6001375aModsRows
import Derived.WalkKit
import Derived.ProofKit
import Derived.WalkSpells
import Derived.WalkLawsBesides
namespace Go.Proofs.Qxb6001375aMods
open Go.RowKit

set_option maxHeartbeats 400000 in
theorem bytes7 (a b c d : ByteArray) (ha : a.size ≤ maxLen) (hb : b.size ≤ maxLen) (hc : c.size ≤ maxLen) (hd : d.size ≤ maxLen) (w : World) :
    Calls Trym.prog 7 #[.string a, .string b, .string c, .string d] w fun e w' => ∃ r : Bool, e = .returned (.bool r) ∧ (r = true → a.size + b.size + c.size + d.size ≤ 1048576) ∧ w' = w := by
  unfold maxLen at *
  go_enter Trym.func7, Trym.ntmps7
  go_wp2
  all_goals
    go_ret
    first
      | exact ⟨false, rfl, by simp, rfl⟩
      | exact ⟨true, rfl, fun _ => by omega, rfl⟩

set_option maxHeartbeats 400000 in
theorem pre9 (s p : ByteArray) (hs : s.size ≤ maxLen) (hp : p.size ≤ s.size) (h : ∀ i (hi : i < p.size), s[i]'(by omega) = p[i]) (w : World) :
    Calls Trym.prog 9 #[.string s, .string p] w fun e w' => e = .returned (.bool true) ∧ ∃ n, w' = w.drewN n := by
  unfold maxLen at *
  go_enter Trym.func9, Trym.ntmps9
  go_wp2
  go_loopw [5] (fun i wr => ∃ k n : Nat, k ≤ p.size ∧ i = .int .i64 k ∧ wr = w.drewN n) (fun i _ => p.size - (intOf i).toNat)
  case atStart => exact ⟨0, 0, Nat.zero_le _, rfl, rfl⟩
  case round =>
    obtain ⟨k, n, hk, rfl, rfl⟩ := hrel
    by_cases hlt : k < p.size
    · have hks : k < s.size := by omega
      go_wp2
      go_region
      all_goals
        go_wp2
        go_roundw
        case rel => exact ⟨k + 1, n + 1, by omega, by go_num, rfl⟩
        case measure => simp [intOf]; omega
    · go_wp2
      go_ret
      exact ⟨rfl, n, rfl⟩

set_option maxHeartbeats 400000 in
theorem suf10 (s p : ByteArray) (hs : s.size ≤ maxLen) (hp : p.size ≤ s.size) (h : ∀ i (hi : i < p.size), s[s.size - p.size + i]'(by omega) = p[i]) (w : World) :
    Calls Trym.prog 10 #[.string s, .string p] w fun e w' => e = .returned (.bool true) ∧ ∃ n, w' = w.drewN n := by
  unfold maxLen at *
  go_enter Trym.func10, Trym.ntmps10
  go_wp2
  go_loopw [6] (fun i wr => ∃ k n : Nat, k ≤ p.size ∧ i = .int .i64 k ∧ wr = w.drewN n) (fun i _ => p.size - (intOf i).toNat)
  case atStart => exact ⟨0, 0, Nat.zero_le _, rfl, rfl⟩
  case round =>
    obtain ⟨k, n, hk, rfl, rfl⟩ := hrel
    by_cases hlt : k < p.size
    · have hks : 0 ≤ (s.size : Int) - p.size + k ∧ (s.size : Int) - p.size + k < s.size := by omega
      have hb : s[((s.size : Int) - p.size + k).toNat]'(by omega) = p[k] := by
        rw [← h k hlt]; congr 1; omega
      go_wp2
      go_region
      all_goals
        go_wp2
        go_roundw
        case rel => exact ⟨k + 1, n + 1, by omega, by go_num, rfl⟩
        case measure => simp [intOf]; omega
    · go_wp2
      go_ret
      exact ⟨rfl, n, rfl⟩

end Go.Proofs.Qxb6001375aMods
