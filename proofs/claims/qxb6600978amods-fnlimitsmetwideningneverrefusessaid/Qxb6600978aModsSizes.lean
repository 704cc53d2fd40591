import Derived.Test.Qxb6600978aModsRows
import Derived.WalkKit
import Derived.ProofKit
import Derived.WalkSpells
import Derived.WalkLawsBesides
import Derived.Deep.QuietTactic
import Derived.BigQuiet
namespace Go.Proofs.Qxb6600978aMods
open Go.RowKit

/-- A slice of n strings: its elements are s 0 .. s (n-1). -/
def Strs (w : World) (a : Option Addr) (n : Nat) (s : Nat → ByteArray) : Prop :=
  ∃ b off, (0 < n → a = some ⟨b, off, none⟩) ∧ ∀ i, i < n → w.cell? ⟨b, off + i, none⟩ = some (.string (s i)) ∧ (s i).size ≤ 9223372036854775807

/-- A slice of n slices of strings. -/
def Grid (w : World) (a : Option Addr) (n : Nat) (A : Nat → Option Addr) (L C : Nat → Nat) (S : Nat → Nat → ByteArray) : Prop :=
  ∃ b off, (0 < n → a = some ⟨b, off, none⟩) ∧ ∀ i, i < n → w.cell? ⟨b, off + i, none⟩ = some (.slice (A i) (L i) (C i)) ∧ L i ≤ 9223372036854775807 ∧ Strs w (A i) (L i) (S i)

theorem add14 (n k : Int) (hn : 0 ≤ n) (hn' : n ≤ 1048577) (hk : 0 ≤ k) (hk' : k ≤ 9223372036854775807) (w : World) :
    Calls Trym.prog 14 #[.int .i64 n, .int .i64 k] w fun e w' => ∃ r : Int, e = .returned (.int .i64 r) ∧ (0 ≤ r ∧ r ≤ 1048577) ∧ w = w' := by
  go_enter Trym.func14, Trym.ntmps14
  go_wp2
  all_goals
    go_ret
    exact ⟨_, rfl, by omega, rfl⟩

set_option maxHeartbeats 400000 in
theorem strs7 (m : Int) (a : Option Addr) (n c : Nat) (s : Nat → ByteArray) (hm : 0 ≤ m) (hm' : m ≤ 1048577) (hn : n ≤ 9223372036854775807) (w : World) (hs : Strs w a n s) :
    Calls Trym.prog 7 #[.int .i64 m, .slice a n c] w fun e w' => ∃ r : Int, e = .returned (.int .i64 r) ∧ (0 ≤ r ∧ r ≤ 1048577) ∧ w = w' := by
  obtain ⟨b, off, ha, hc⟩ := hs
  have Ha : Hid (0 < n → a = some ⟨b, off, none⟩) := ha
  have Hc : Hid (∀ i, i < n → w.cell? ⟨b, off + i, none⟩ = some (.string (s i)) ∧ (s i).size ≤ 9223372036854775807) := hc
  clear ha hc
  by_cases h16 : n ≤ 65536 ∧ m ≤ 1048576
  · obtain ⟨h1, h2⟩ := h16
    go_enter Trym.func7, Trym.ntmps7
    go_wp2_with fail
    refine (add14 m (16 * (n : Int)) hm hm' (by omega) (by omega) _).mono ?_
    rintro x w' ⟨r, rfl, ⟨hr, hr'⟩, hw'⟩
    subst hw'
    go_wp2_with fail
    go_loop [0, 5] (fun t i => ∃ (k : Nat) (z : Int), k ≤ n ∧ i = .int .i64 k ∧ t = .int .i64 z ∧ 0 ≤ z ∧ z ≤ 1048577) (fun _ i => n - (intOf i).toNat)
    case atStart => exact ⟨0, r, Nat.zero_le _, rfl, rfl, hr, hr'⟩
    case round =>
      obtain ⟨k, z, hk, rfl, rfl, hz, hz'⟩ := hrel
      by_cases hlt : k < n
      · obtain rfl := Ha.out (by omega)
        obtain ⟨g1, g2⟩ := Hc.out k hlt
        by_cases hz2 : 1048576 < z
        · go_wp2_with fail
          go_ret
          exact ⟨z, rfl, ⟨hz, hz'⟩, rfl⟩
        · go_wp2_with fail
          refine (add14 z ((s k).size : Int) hz hz' (by omega) (by omega) _).mono ?_
          rintro x w' ⟨r2, rfl, ⟨hr2, hr2'⟩, hw'⟩
          subst hw'
          go_wp2_with fail
          go_round
          case rel => exact ⟨k + 1, r2, by omega, by go_num, rfl, hr2, hr2'⟩
          case measure => simp [intOf]; omega
      · go_wp2_with fail
        go_ret
        exact ⟨z, rfl, ⟨hz, hz'⟩, rfl⟩
  · go_enter Trym.func7, Trym.ntmps7
    go_wp2_with fail
    all_goals
      go_ret
      exact ⟨_, rfl, by omega, rfl⟩

set_option maxHeartbeats 400000 in
theorem strss19 (m : Int) (a : Option Addr) (n c : Nat) (A : Nat → Option Addr) (L C : Nat → Nat) (S : Nat → Nat → ByteArray) (hm : 0 ≤ m) (hm' : m ≤ 1048577) (hn : n ≤ 9223372036854775807) (w : World) (hs : Grid w a n A L C S) :
    Calls Trym.prog 19 #[.int .i64 m, .slice a n c] w fun e w' => ∃ r : Int, e = .returned (.int .i64 r) ∧ (0 ≤ r ∧ r ≤ 1048577) ∧ w = w' := by
  obtain ⟨b, off, ha, hc⟩ := hs
  have Ha : Hid (0 < n → a = some ⟨b, off, none⟩) := ha
  have Hc : Hid (∀ i, i < n → w.cell? ⟨b, off + i, none⟩ = some (.slice (A i) (L i) (C i)) ∧ L i ≤ 9223372036854775807 ∧ Strs w (A i) (L i) (S i)) := hc
  clear ha hc
  by_cases h16 : n ≤ 43690 ∧ m ≤ 1048576
  · obtain ⟨h1, h2⟩ := h16
    go_enter Trym.func19, Trym.ntmps19
    go_wp2_with fail
    refine (add14 m (24 * (n : Int)) hm hm' (by omega) (by omega) _).mono ?_
    rintro x w' ⟨r, rfl, ⟨hr, hr'⟩, hw'⟩
    subst hw'
    go_wp2_with fail
    go_loop [0, 5] (fun t i => ∃ (k : Nat) (z : Int), k ≤ n ∧ i = .int .i64 k ∧ t = .int .i64 z ∧ 0 ≤ z ∧ z ≤ 1048577) (fun _ i => n - (intOf i).toNat)
    case atStart => exact ⟨0, r, Nat.zero_le _, rfl, rfl, hr, hr'⟩
    case round =>
      obtain ⟨k, z, hk, rfl, rfl, hz, hz'⟩ := hrel
      by_cases hlt : k < n
      · obtain rfl := Ha.out (by omega)
        obtain ⟨g1, g2, g3⟩ := Hc.out k hlt
        have G3 : Hid (Strs w (A k) (L k) (S k)) := g3
        clear g3
        by_cases hz2 : 1048576 < z
        · go_wp2_with fail
          go_ret
          exact ⟨z, rfl, ⟨hz, hz'⟩, rfl⟩
        · go_wp2_with fail
          refine (strs7 z (A k) (L k) (C k) (S k) hz hz' g2 _ G3.out).mono ?_
          rintro x w' ⟨r2, rfl, ⟨hr2, hr2'⟩, hw'⟩
          subst hw'
          go_wp2_with fail
          go_round
          case rel => exact ⟨k + 1, r2, by omega, by go_num, rfl, hr2, hr2'⟩
          case measure => simp [intOf]; omega
      · go_wp2_with fail
        go_ret
        exact ⟨z, rfl, ⟨hz, hz'⟩, rfl⟩
  · go_enter Trym.func19, Trym.ntmps19
    go_wp2_with fail
    all_goals
      go_ret
      exact ⟨_, rfl, by omega, rfl⟩

theorem cloneBytes16 (r : ByteArray) (a1 : Option Addr) (n1 c1 : Nat) (s1 : Nat → ByteArray) (a2 : Option Addr) (n2 c2 : Nat) (s2 : Nat → ByteArray) (a3 : Option Addr) (n3 c3 : Nat) (s3 : Nat → ByteArray) (a4 : Option Addr) (n4 c4 : Nat) (A : Nat → Option Addr) (L C : Nat → Nat) (S : Nat → Nat → ByteArray)
    (hr : r.size ≤ 9223372036854775807) (hn1 : n1 ≤ 9223372036854775807) (hn2 : n2 ≤ 9223372036854775807) (hn3 : n3 ≤ 9223372036854775807) (hn4 : n4 ≤ 9223372036854775807) (w : World)
    (h1 : Strs w a1 n1 s1) (h2 : Strs w a2 n2 s2) (h3 : Strs w a3 n3 s3) (h4 : Grid w a4 n4 A L C S) :
    Calls Trym.prog 16 #[.string r, .slice a1 n1 c1, .slice a2 n2 c2, .slice a3 n3 c3, .slice a4 n4 c4] w fun e w' => ∃ r : Int, e = .returned (.int .i64 r) ∧ (0 ≤ r ∧ r ≤ 1048577) ∧ w = w' := by
  have H1 : Hid (Strs w a1 n1 s1) := h1
  have H2 : Hid (Strs w a2 n2 s2) := h2
  have H3 : Hid (Strs w a3 n3 s3) := h3
  have H4 : Hid (Grid w a4 n4 A L C S) := h4
  clear h1 h2 h3 h4
  go_enter Trym.func16, Trym.ntmps16
  go_wp2_with fail
  refine (add14 0 (r.size : Int) (by omega) (by omega) (by omega) (by omega) _).mono ?_
  rintro x w' ⟨z, rfl, ⟨hz, hz'⟩, hw⟩
  subst hw
  go_wp2_with fail
  refine (strs7 z a1 n1 c1 s1 hz hz' hn1 _ H1.out).mono ?_
  rintro x w' ⟨z1, rfl, ⟨hz1, hz1'⟩, hw⟩
  subst hw
  go_wp2_with fail
  refine (strs7 z1 a2 n2 c2 s2 hz1 hz1' hn2 _ H2.out).mono ?_
  rintro x w' ⟨z2, rfl, ⟨hz2, hz2'⟩, hw⟩
  subst hw
  go_wp2_with fail
  refine (strs7 z2 a3 n3 c3 s3 hz2 hz2' hn3 _ H3.out).mono ?_
  rintro x w' ⟨z3, rfl, ⟨hz3, hz3'⟩, hw⟩
  subst hw
  go_wp2_with fail
  refine (strss19 z3 a4 n4 c4 A L C S hz3 hz3' hn4 _ H4.out).mono ?_
  rintro x w' ⟨z4, rfl, ⟨hz4, hz4'⟩, hw⟩
  subst hw
  go_wp2_with fail
  go_ret
  exact ⟨z4, rfl, ⟨hz4, hz4'⟩, rfl⟩

theorem limitsBytes8 (a1 : Option Addr) (n1 c1 : Nat) (s1 : Nat → ByteArray) (a2 : Option Addr) (n2 c2 : Nat) (s2 : Nat → ByteArray) (a4 : Option Addr) (n4 c4 : Nat) (A : Nat → Option Addr) (L C : Nat → Nat) (S : Nat → Nat → ByteArray) (a3 : Option Addr) (n3 c3 : Nat) (s3 : Nat → ByteArray) (a5 : Option Addr) (n5 c5 : Nat) (s5 : Nat → ByteArray)
    (hn1 : n1 ≤ 9223372036854775807) (hn2 : n2 ≤ 9223372036854775807) (hn4 : n4 ≤ 9223372036854775807) (hn3 : n3 ≤ 9223372036854775807) (hn5 : n5 ≤ 9223372036854775807) (w : World)
    (h1 : Strs w a1 n1 s1) (h2 : Strs w a2 n2 s2) (h4 : Grid w a4 n4 A L C S) (h3 : Strs w a3 n3 s3) (h5 : Strs w a5 n5 s5) :
    Calls Trym.prog 8 #[.slice a1 n1 c1, .slice a2 n2 c2, .slice a4 n4 c4, .slice a3 n3 c3, .slice a5 n5 c5] w fun e w' => ∃ r : Int, e = .returned (.int .i64 r) ∧ (0 ≤ r ∧ r ≤ 1048577) ∧ w = w' := by
  have H1 : Hid (Strs w a1 n1 s1) := h1
  have H2 : Hid (Strs w a2 n2 s2) := h2
  have H3 : Hid (Strs w a3 n3 s3) := h3
  have H5 : Hid (Strs w a5 n5 s5) := h5
  have H4 : Hid (Grid w a4 n4 A L C S) := h4
  clear h1 h2 h3 h4 h5
  go_enter Trym.func8, Trym.ntmps8
  go_wp2_with fail
  refine (strs7 0 a1 n1 c1 s1 (by omega) (by omega) hn1 _ H1.out).mono ?_
  rintro x w' ⟨z1, rfl, ⟨hz1, hz1'⟩, hw⟩
  subst hw
  go_wp2_with fail
  refine (strs7 z1 a2 n2 c2 s2 hz1 hz1' hn2 _ H2.out).mono ?_
  rintro x w' ⟨z2, rfl, ⟨hz2, hz2'⟩, hw⟩
  subst hw
  go_wp2_with fail
  refine (strss19 z2 a4 n4 c4 A L C S hz2 hz2' hn4 _ H4.out).mono ?_
  rintro x w' ⟨z3, rfl, ⟨hz3, hz3'⟩, hw⟩
  subst hw
  go_wp2_with fail
  refine (strs7 z3 a3 n3 c3 s3 hz3 hz3' hn3 _ H3.out).mono ?_
  rintro x w' ⟨z4, rfl, ⟨hz4, hz4'⟩, hw⟩
  subst hw
  go_wp2_with fail
  refine (strs7 z4 a5 n5 c5 s5 hz4 hz4' hn5 _ H5.out).mono ?_
  rintro x w' ⟨z5, rfl, ⟨hz5, hz5'⟩, hw⟩
  subst hw
  go_wp2_with fail
  go_ret
  exact ⟨z5, rfl, ⟨hz5, hz5'⟩, rfl⟩
end Go.Proofs.Qxb6600978aMods
