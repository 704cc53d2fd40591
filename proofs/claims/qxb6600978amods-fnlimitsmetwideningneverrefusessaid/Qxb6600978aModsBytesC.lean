import Derived.Test.Qxb6600978aModsSizes
namespace Go.Proofs.Qxb6600978aMods
open Go.RowKit

/-- What zzBytes_.. says: a bool; where it is true, the lengths are small. -/
def Small (w : World) (p : Prop) (e : Ending) (w' : World) : Prop := ∃ r : Bool, e = .returned (.bool r) ∧ (r = true → p) ∧ w = w'
theorem Small.no (w : World) (p : Prop) : Small w p (.returned (.bool false)) w := ⟨false, rfl, by simp, rfl⟩
theorem Small.yes (w : World) {p : Prop} (h : p) : Small w p (.returned (.bool true)) w := ⟨true, rfl, fun _ => h, rfl⟩

set_option maxRecDepth 100000 in
set_option maxHeartbeats 4000000 in
theorem bytes15 (r : ByteArray) (a1 : Option Addr) (n1 c1 : Nat) (s1 : Nat → ByteArray) (a2 : Option Addr) (n2 c2 : Nat) (s2 : Nat → ByteArray) (a3 : Option Addr) (n3 c3 : Nat) (s3 : Nat → ByteArray) (a4 : Option Addr) (n4 c4 : Nat) (A : Nat → Option Addr) (L C : Nat → Nat) (S : Nat → Nat → ByteArray) (bo : Bool)
    (hr : r.size ≤ 9223372036854775807) (hn1 : n1 ≤ 9223372036854775807) (hn2 : n2 ≤ 9223372036854775807) (hn3 : n3 ≤ 9223372036854775807) (hn4 : n4 ≤ 9223372036854775807) (w : World)
    (h1 : Strs w a1 n1 s1) (h2 : Strs w a2 n2 s2) (h3 : Strs w a3 n3 s3) (h4 : Grid w a4 n4 A L C S) :
    Calls Trym.prog 15 #[.string r, .slice a1 n1 c1, .slice a2 n2 c2, .slice a3 n3 c3, .slice a4 n4 c4, .bool bo] w (Small w (n1 ≤ 1048576 ∧ n2 ≤ 1048576 ∧ n3 ≤ 1048576 ∧ n4 ≤ 1048576 ∧ ∀ i, i < n4 → L i ≤ 1048576)) := by
  obtain ⟨b1, off1, ha1, hc1⟩ := h1
  obtain ⟨b2, off2, ha2, hc2⟩ := h2
  obtain ⟨b3, off3, ha3, hc3⟩ := h3
  obtain ⟨b4, off4, ha4, hc4⟩ := h4
  have Ha1 : Hid (0 < n1 → a1 = some ⟨b1, off1, none⟩) := ha1
  have Hc1 : Hid (∀ i, i < n1 → w.cell? ⟨b1, off1 + i, none⟩ = some (.string (s1 i)) ∧ (s1 i).size ≤ 9223372036854775807) := hc1
  have Ha2 : Hid (0 < n2 → a2 = some ⟨b2, off2, none⟩) := ha2
  have Hc2 : Hid (∀ i, i < n2 → w.cell? ⟨b2, off2 + i, none⟩ = some (.string (s2 i)) ∧ (s2 i).size ≤ 9223372036854775807) := hc2
  have Ha3 : Hid (0 < n3 → a3 = some ⟨b3, off3, none⟩) := ha3
  have Hc3 : Hid (∀ i, i < n3 → w.cell? ⟨b3, off3 + i, none⟩ = some (.string (s3 i)) ∧ (s3 i).size ≤ 9223372036854775807) := hc3
  have Ha4 : Hid (0 < n4 → a4 = some ⟨b4, off4, none⟩) := ha4
  have Hc4 : Hid (∀ i, i < n4 → w.cell? ⟨b4, off4 + i, none⟩ = some (.slice (A i) (L i) (C i)) ∧ L i ≤ 9223372036854775807 ∧ Strs w (A i) (L i) (S i)) := hc4
  clear ha1 hc1 ha2 hc2 ha3 hc3 ha4 hc4
  go_enter Trym.func15, Trym.ntmps15
  by_cases t0 : 1048576 < r.size
  · go_wp2
    go_ret
    exact Small.no _ _
  by_cases t1 : 1048576 < n1
  · go_wp2
    go_ret
    exact Small.no _ _
  by_cases t1s : 1048576 < r.size + n1
  · go_wp2
    go_ret
    exact Small.no _ _
  go_wp2
  go_loop [13, 14] (fun t i => ∃ (k : Nat) (z : Int), k ≤ n1 ∧ i = .int .i64 k ∧ t = .int .i64 z ∧ 0 ≤ z ∧ z ≤ 1048576) (fun _ i => n1 - (intOf i).toNat)
  case atStart => exact ⟨0, _, Nat.zero_le _, rfl, rfl, by omega, by omega⟩
  case round =>
    obtain ⟨k, z, hk, rfl, rfl, hz, hz'⟩ := hrel
    by_cases hlt : k < n1
    · obtain rfl := Ha1.out (by omega)
      obtain ⟨g1, g2⟩ := Hc1.out k hlt
      by_cases q1 : (s1 k).size ≤ 1048576
      · by_cases q2 : z + (s1 k).size ≤ 1048576
        · go_wp2
          go_round
          case rel => exact ⟨k + 1, _, by omega, by go_num, rfl, by omega, by omega⟩
          case measure => simp [intOf]; omega
        · go_wp2
          go_ret
          exact Small.no _ _
      · go_wp2
        go_ret
        exact Small.no _ _
    · by_cases t2 : 1048576 < n2
      · go_wp2
        go_ret
        exact Small.no _ _
      by_cases t2s : 1048576 < z + n2
      · go_wp2
        go_ret
        exact Small.no _ _
      go_wp2
      clear Ha1 Hc1
      go_loop [13, 15] (fun t i => ∃ (k : Nat) (z : Int), k ≤ n2 ∧ i = .int .i64 k ∧ t = .int .i64 z ∧ 0 ≤ z ∧ z ≤ 1048576) (fun _ i => n2 - (intOf i).toNat)
      case atStart => exact ⟨0, _, Nat.zero_le _, rfl, rfl, by omega, by omega⟩
      case round =>
        obtain ⟨k2, z2, hk2, rfl, rfl, hz2, hz2'⟩ := hrel
        by_cases hlt2 : k2 < n2
        · obtain rfl := Ha2.out (by omega)
          obtain ⟨g1, g2⟩ := Hc2.out k2 hlt2
          by_cases q1 : (s2 k2).size ≤ 1048576
          · by_cases q2 : z2 + (s2 k2).size ≤ 1048576
            · go_wp2
              go_round
              case rel => exact ⟨k2 + 1, _, by omega, by go_num, rfl, by omega, by omega⟩
              case measure => simp [intOf]; omega
            · go_wp2
              go_ret
              exact Small.no _ _
          · go_wp2
            go_ret
            exact Small.no _ _
        · by_cases t3 : 1048576 < n3
          · go_wp2
            go_ret
            exact Small.no _ _
          by_cases t3s : 1048576 < z2 + n3
          · go_wp2
            go_ret
            exact Small.no _ _
          go_wp2
          clear Ha2 Hc2
          go_loop [13, 16] (fun t i => ∃ (k : Nat) (z : Int), k ≤ n3 ∧ i = .int .i64 k ∧ t = .int .i64 z ∧ 0 ≤ z ∧ z ≤ 1048576) (fun _ i => n3 - (intOf i).toNat)
          case atStart => exact ⟨0, _, Nat.zero_le _, rfl, rfl, by omega, by omega⟩
          case round =>
            obtain ⟨k3, z3, hk3, rfl, rfl, hz3, hz3'⟩ := hrel
            by_cases hlt3 : k3 < n3
            · obtain rfl := Ha3.out (by omega)
              obtain ⟨g1, g2⟩ := Hc3.out k3 hlt3
              by_cases q1 : (s3 k3).size ≤ 1048576
              · by_cases q2 : z3 + (s3 k3).size ≤ 1048576
                · go_wp2
                  go_round
                  case rel => exact ⟨k3 + 1, _, by omega, by go_num, rfl, by omega, by omega⟩
                  case measure => simp [intOf]; omega
                · go_wp2
                  go_ret
                  exact Small.no _ _
              · go_wp2
                go_ret
                exact Small.no _ _
            · by_cases t4 : 1048576 < n4
              · go_wp2
                go_ret
                exact Small.no _ _
              by_cases t4s : 1048576 < z3 + n4
              · go_wp2
                go_ret
                exact Small.no _ _
              go_wp2
              clear Ha3 Hc3
              go_loop [13, 17] (fun t i => ∃ (k : Nat) (z : Int), k ≤ n4 ∧ i = .int .i64 k ∧ t = .int .i64 z ∧ 0 ≤ z ∧ z ≤ 1048576 ∧ Hid (∀ i, i < k → L i ≤ 1048576)) (fun _ i => n4 - (intOf i).toNat)
              case atStart => exact ⟨0, _, Nat.zero_le _, rfl, rfl, by omega, by omega, fun i hi => absurd hi (Nat.not_lt_zero _)⟩
              case round =>
                obtain ⟨k4, z4, hk4, rfl, rfl, hz4, hz4', hL⟩ := hrel
                by_cases hlt4 : k4 < n4
                · obtain rfl := Ha4.out (by omega)
                  obtain ⟨g1, g2, b5, off5, ha5, hc5⟩ := Hc4.out k4 hlt4
                  have Ha5 : Hid (0 < L k4 → A k4 = some ⟨b5, off5, none⟩) := ha5
                  have Hc5 : Hid (∀ i, i < L k4 → w.cell? ⟨b5, off5 + i, none⟩ = some (.string (S k4 i)) ∧ (S k4 i).size ≤ 9223372036854775807) := hc5
                  clear ha5 hc5
                  by_cases q1 : 1048576 < L k4
                  · go_wp2
                    go_ret
                    exact Small.no _ _
                  by_cases q2 : 1048576 < z4 + L k4
                  · go_wp2
                    go_ret
                    exact Small.no _ _
                  have hL' : Hid (∀ i, i < k4 + 1 → L i ≤ 1048576) := fun i hi => by
                    by_cases e : i = k4
                    · subst e; omega
                    · exact hL.out i (by omega)
                  go_wp2
                  go_loop [13, 18] (fun t i => ∃ (k : Nat) (z : Int), k ≤ L k4 ∧ i = .int .i64 k ∧ t = .int .i64 z ∧ 0 ≤ z ∧ z ≤ 1048576) (fun _ i => L k4 - (intOf i).toNat)
                  case atStart => exact ⟨0, _, Nat.zero_le _, rfl, rfl, by omega, by omega⟩
                  case round =>
                    obtain ⟨k5, z5, hk5, rfl, rfl, hz5, hz5'⟩ := hrel
                    by_cases hlt5 : k5 < L k4
                    · have e5 := Ha5.out (by omega)
                      rw [e5] at g1
                      obtain ⟨g5, g6⟩ := Hc5.out k5 hlt5
                      by_cases p1 : (S k4 k5).size ≤ 1048576
                      · by_cases p2 : z5 + (S k4 k5).size ≤ 1048576
                        · go_wp2
                          go_round
                          case rel => exact ⟨k5 + 1, _, by omega, by go_num, rfl, by omega, by omega⟩
                          case measure => simp [intOf]; omega
                        · go_wp2
                          go_ret
                          exact Small.no _ _
                      · go_wp2
                        go_ret
                        exact Small.no _ _
                    · go_wp2
                      go_round
                      case rel => exact ⟨k4 + 1, z5, by omega, by go_num, rfl, hz5, hz5', hL'⟩
                      case measure => simp [intOf]; omega
                · go_wp2
                  go_ret
                  exact Small.yes _ ⟨by omega, by omega, by omega, by omega, fun i hi => hL.out i (by omega)⟩
end Go.Proofs.Qxb6600978aMods
