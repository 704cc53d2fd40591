import Derived.Test.Qxb6600978aModsSizes
import Derived.Lib.SliceRun
namespace Go.Proofs.Qxb6600978aMods
open Go.RowKit

set_option maxHeartbeats 400000 in
theorem same22 (a1 : Option Addr) (n c1 : Nat) (a2 : Option Addr) (c2 : Nat) (s : Nat → ByteArray) (hn : n ≤ 9223372036854775807) (w : World) (h1 : Strs w a1 n s) (h2 : Strs w a2 n s) :
    Calls Trym.prog 22 #[.slice a1 n c1, .slice a2 n c2] w fun e w' => e = .returned (.bool true) ∧ ∃ m, w' = w.drewN m := by
  obtain ⟨b1, off1, ha1, hc1⟩ := h1
  obtain ⟨b2, off2, ha2, hc2⟩ := h2
  have Ha1 : Hid (0 < n → a1 = some ⟨b1, off1, none⟩) := ha1
  have Hc1 : Hid (∀ i, i < n → w.cell? ⟨b1, off1 + i, none⟩ = some (.string (s i)) ∧ (s i).size ≤ 9223372036854775807) := hc1
  have Ha2 : Hid (0 < n → a2 = some ⟨b2, off2, none⟩) := ha2
  have Hc2 : Hid (∀ i, i < n → w.cell? ⟨b2, off2 + i, none⟩ = some (.string (s i)) ∧ (s i).size ≤ 9223372036854775807) := hc2
  clear ha1 hc1 ha2 hc2
  go_enter Trym.func22, Trym.ntmps22
  go_wp2
  go_loopw [5] (fun i wr => ∃ k m : Nat, k ≤ n ∧ i = .int .i64 k ∧ wr = w.drewN m) (fun i _ => n - (intOf i).toNat)
  case atStart => exact ⟨0, 0, Nat.zero_le _, rfl, rfl⟩
  case round =>
    obtain ⟨k, m, hk, rfl, rfl⟩ := hrel
    by_cases hlt : k < n
    · obtain rfl := Ha1.out (by omega)
      obtain rfl := Ha2.out (by omega)
      obtain ⟨g1, _⟩ := Hc1.out k hlt
      obtain ⟨g2, _⟩ := Hc2.out k hlt
      generalize s k = K at *
      go_wp2
      go_region
      all_goals
        go_wp2
        go_roundw
        case rel => exact ⟨k + 1, m + 1, by omega, by go_num, rfl⟩
        case measure => simp [intOf]; omega
    · go_wp2
      go_ret
      exact ⟨rfl, m, rfl⟩

/-- got holds want's elements, and is nil just if there are none. -/
def NilOk (a : Option Addr) (n : Nat) : Prop := (n = 0 ∧ a = none) ∨ (0 < n ∧ ∃ x, a = some x)

set_option maxHeartbeats 400000 in
theorem same18 (a1 : Option Addr) (n c1 : Nat) (a2 : Option Addr) (c2 : Nat) (s : Nat → ByteArray) (hn : n ≤ 9223372036854775807) (w : World) (h1 : Strs w a1 n s) (h2 : Strs w a2 n s) (h3 : NilOk a1 n) :
    Calls Trym.prog 18 #[.slice a1 n c1, .slice a2 n c2] w fun e w' => e = .returned (.bool true) ∧ ∃ m, w' = w.drewN m := by
  have q22 : ∀ (w : World) (a : Option Addr) (n c n' c' : Nat), (binOp .eql 22 (.slice a n c) (.slice none n' c')).run Trym.prog w = .ok (.bool a.isNone) w := fun w a n c n' c' => Lib.run_eql_slice_nil w _ _ a n c n' c' Trym.underlying22
  have H1 : Hid (Strs w a1 n s) := h1
  have H2 : Hid (Strs w a2 n s) := h2
  clear h1 h2
  rcases h3 with ⟨rfl, rfl⟩ | ⟨hp, x, rfl⟩
  · go_enter Trym.func18, Trym.ntmps18
    go_wp2_with fail
    refine (same22 none 0 c1 a2 c2 s hn _ H1.out H2.out).mono ?_
    rintro x w' ⟨rfl, m, rfl⟩
    go_wp2_with fail
    go_ret
    exact ⟨rfl, m, rfl⟩
  · have hne : ((n : Int) == 0) = false := beq_eq_false_iff_ne.2 (by omega)
    go_enter Trym.func18, Trym.ntmps18
    go_wp2_with fail
    refine (same22 (some x) n c1 a2 c2 s hn _ H1.out H2.out).mono ?_
    rintro x w' ⟨rfl, m, rfl⟩
    go_wp2_with fail
    go_ret
    exact ⟨rfl, m, rfl⟩
end Go.Proofs.Qxb6600978aMods
