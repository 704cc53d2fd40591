import Derived.Test.Qxb6600978aModsBytesC
namespace Go.Proofs.Qxb6600978aMods
open Go.RowKit

set_option maxRecDepth 100000 in
set_option maxHeartbeats 8000000 in
theorem bytes13 (a1 : Option Addr) (n1 c1 : Nat) (s1 : Nat → ByteArray) (a2 : Option Addr) (n2 c2 : Nat) (s2 : Nat → ByteArray) (a4 : Option Addr) (n4 c4 : Nat) (A : Nat → Option Addr) (L C : Nat → Nat) (S : Nat → Nat → ByteArray) (a3 : Option Addr) (n3 c3 : Nat) (s3 : Nat → ByteArray) (a5 : Option Addr) (n5 c5 : Nat) (s5 : Nat → ByteArray) (at_ : Int) (wd : ByteArray)
    (hn1 : n1 ≤ 9223372036854775807) (hn2 : n2 ≤ 9223372036854775807) (hn4 : n4 ≤ 9223372036854775807) (hn3 : n3 ≤ 9223372036854775807) (hn5 : n5 ≤ 9223372036854775807) (hwd : wd.size ≤ 9223372036854775807) (w : World)
    (h1 : Strs w a1 n1 s1) (h2 : Strs w a2 n2 s2) (h4 : Grid w a4 n4 A L C S) (h3 : Strs w a3 n3 s3) (h5 : Strs w a5 n5 s5) :
    Calls Trym.prog 13 #[.slice a1 n1 c1, .slice a2 n2 c2, .slice a4 n4 c4, .slice a3 n3 c3, .slice a5 n5 c5, .int .i64 at_, .string wd] w
      (Small w (n1 ≤ 1048576 ∧ n2 ≤ 1048576 ∧ n4 ≤ 1048576 ∧ (∀ i, i < n4 → L i ≤ 1048576) ∧ n3 ≤ 1048576 ∧ n5 ≤ 1048576 ∧ wd.size ≤ 1048576)) := by
  obtain ⟨b1, off1, ha1, hc1⟩ := h1
  have Ha1 : Hid (0 < n1 → a1 = some ⟨b1, off1, none⟩) := ha1
  have Hc1 : Hid (∀ i, i < n1 → w.cell? ⟨b1, off1 + i, none⟩ = some (.string (s1 i)) ∧ (s1 i).size ≤ 9223372036854775807) := hc1
  clear ha1 hc1
  obtain ⟨b2, off2, ha2, hc2⟩ := h2
  have Ha2 : Hid (0 < n2 → a2 = some ⟨b2, off2, none⟩) := ha2
  have Hc2 : Hid (∀ i, i < n2 → w.cell? ⟨b2, off2 + i, none⟩ = some (.string (s2 i)) ∧ (s2 i).size ≤ 9223372036854775807) := hc2
  clear ha2 hc2
  obtain ⟨b3, off3, ha3, hc3⟩ := h3
  have Ha3 : Hid (0 < n3 → a3 = some ⟨b3, off3, none⟩) := ha3
  have Hc3 : Hid (∀ i, i < n3 → w.cell? ⟨b3, off3 + i, none⟩ = some (.string (s3 i)) ∧ (s3 i).size ≤ 9223372036854775807) := hc3
  clear ha3 hc3
  obtain ⟨b5, off5, ha5, hc5⟩ := h5
  have Ha5 : Hid (0 < n5 → a5 = some ⟨b5, off5, none⟩) := ha5
  have Hc5 : Hid (∀ i, i < n5 → w.cell? ⟨b5, off5 + i, none⟩ = some (.string (s5 i)) ∧ (s5 i).size ≤ 9223372036854775807) := hc5
  clear ha5 hc5
  obtain ⟨b4, off4, ha4, hc4⟩ := h4
  have Ha4 : Hid (0 < n4 → a4 = some ⟨b4, off4, none⟩) := ha4
  have Hc4 : Hid (∀ i, i < n4 → w.cell? ⟨b4, off4 + i, none⟩ = some (.slice (A i) (L i) (C i)) ∧ L i ≤ 9223372036854775807 ∧ Strs w (A i) (L i) (S i)) := hc4
  clear ha4 hc4
  go_enter Trym.func13, Trym.ntmps13
  by_cases t1 : 1048576 < n1
  · go_wp2
    go_ret
    exact Small.no _ _
  go_wp2
  go_loop [15, 16] (fun t i => ∃ (k : Nat) (z : Int), k ≤ n1 ∧ i = .int .i64 k ∧ t = .int .i64 z ∧ 0 ≤ z ∧ z ≤ 1048576) (fun _ i => n1 - (intOf i).toNat)
  case atStart => exact ⟨0, _, Nat.zero_le _, rfl, rfl, by omega, by omega⟩
  case round =>
    obtain ⟨k1, z1, hk1, rfl, rfl, hz1, hz1'⟩ := hrel
    by_cases hlt1 : k1 < n1
    · obtain rfl := Ha1.out (by omega)
      obtain ⟨g1, g2⟩ := Hc1.out k1 hlt1
      by_cases q1 : (s1 k1).size ≤ 1048576
      · by_cases q2 : z1 + (s1 k1).size ≤ 1048576
        · go_wp2
          go_round
          case rel => exact ⟨k1 + 1, _, by omega, by go_num, rfl, by omega, by omega⟩
          case measure => simp [intOf]; omega
        · go_wp2
          go_ret
          exact Small.no _ _
      · go_wp2
        go_ret
        exact Small.no _ _
    · by_cases t2 : 1048576 < n2
      · go_wp2
        go_ret
        exact Small.no _ _
      by_cases t2s : 1048576 < z1 + n2
      · go_wp2
        go_ret
        exact Small.no _ _
      go_wp2
      clear Ha1 Hc1
      go_loop [15, 17] (fun t i => ∃ (k : Nat) (z : Int), k ≤ n2 ∧ i = .int .i64 k ∧ t = .int .i64 z ∧ 0 ≤ z ∧ z ≤ 1048576) (fun _ i => n2 - (intOf i).toNat)
      case atStart => exact ⟨0, _, Nat.zero_le _, rfl, rfl, by omega, by omega⟩
      case round =>
        obtain ⟨k2, z2, hk2, rfl, rfl, hz2, hz2'⟩ := hrel
        by_cases hlt2 : k2 < n2
        · obtain rfl := Ha2.out (by omega)
          obtain ⟨g1, g2⟩ := Hc2.out k2 hlt2
          by_cases q1 : (s2 k2).size ≤ 1048576
          · by_cases q2 : z2 + (s2 k2).size ≤ 1048576
            · go_wp2
              go_round
              case rel => exact ⟨k2 + 1, _, by omega, by go_num, rfl, by omega, by omega⟩
              case measure => simp [intOf]; omega
            · go_wp2
              go_ret
              exact Small.no _ _
          · go_wp2
            go_ret
            exact Small.no _ _
        · by_cases t4 : 1048576 < n4
          · go_wp2
            go_ret
            exact Small.no _ _
          by_cases t4s : 1048576 < z2 + n4
          · go_wp2
            go_ret
            exact Small.no _ _
          go_wp2
          clear Ha2 Hc2
          go_loop [15, 18] (fun t i => ∃ (k : Nat) (z : Int), k ≤ n4 ∧ i = .int .i64 k ∧ t = .int .i64 z ∧ 0 ≤ z ∧ z ≤ 1048576 ∧ Hid (∀ i, i < k → L i ≤ 1048576)) (fun _ i => n4 - (intOf i).toNat)
          case atStart => exact ⟨0, _, Nat.zero_le _, rfl, rfl, by omega, by omega, fun i hi => absurd hi (Nat.not_lt_zero _)⟩
          case round =>
            obtain ⟨k4, z4, hk4, rfl, rfl, hz4, hz4', hL⟩ := hrel
            by_cases hlt4 : k4 < n4
            · obtain rfl := Ha4.out (by omega)
              obtain ⟨g1, g2, b6, off6, ha6, hc6⟩ := Hc4.out k4 hlt4
              have Ha6 : Hid (0 < L k4 → A k4 = some ⟨b6, off6, none⟩) := ha6
              have Hc6 : Hid (∀ i, i < L k4 → w.cell? ⟨b6, off6 + i, none⟩ = some (.string (S k4 i)) ∧ (S k4 i).size ≤ 9223372036854775807) := hc6
              clear ha6 hc6
              by_cases q1 : 1048576 < L k4
              · go_wp2
                go_ret
                exact Small.no _ _
              by_cases q2 : 1048576 < z4 + L k4
              · go_wp2
                go_ret
                exact Small.no _ _
              have hL' : Hid (∀ i, i < k4 + 1 → L i ≤ 1048576) := fun i hi => by
                by_cases e : i = k4
                · subst e; omega
                · exact hL.out i (by omega)
              go_wp2
              go_loop [15, 19] (fun t i => ∃ (k : Nat) (z : Int), k ≤ L k4 ∧ i = .int .i64 k ∧ t = .int .i64 z ∧ 0 ≤ z ∧ z ≤ 1048576) (fun _ i => L k4 - (intOf i).toNat)
              case atStart => exact ⟨0, _, Nat.zero_le _, rfl, rfl, by omega, by omega⟩
              case round =>
                obtain ⟨k6, z6, hk6, rfl, rfl, hz6, hz6'⟩ := hrel
                by_cases hlt6 : k6 < L k4
                · have e6 := Ha6.out (by omega)
                  rw [e6] at g1
                  obtain ⟨g5, g6⟩ := Hc6.out k6 hlt6
                  by_cases p1 : (S k4 k6).size ≤ 1048576
                  · by_cases p2 : z6 + (S k4 k6).size ≤ 1048576
                    · go_wp2
                      go_round
                      case rel => exact ⟨k6 + 1, _, by omega, by go_num, rfl, by omega, by omega⟩
                      case measure => simp [intOf]; omega
                    · go_wp2
                      go_ret
                      exact Small.no _ _
                  · go_wp2
                    go_ret
                    exact Small.no _ _
                · go_wp2
                  go_round
                  case rel => exact ⟨k4 + 1, z6, by omega, by go_num, rfl, hz6, hz6', hL'⟩
                  case measure => simp [intOf]; omega
            · by_cases t3 : 1048576 < n3
              · go_wp2
                go_ret
                exact Small.no _ _
              by_cases t3s : 1048576 < z4 + n3
              · go_wp2
                go_ret
                exact Small.no _ _
              go_wp2
              clear Ha4 Hc4
              go_loop [15, 20] (fun t i => ∃ (k : Nat) (z : Int), k ≤ n3 ∧ i = .int .i64 k ∧ t = .int .i64 z ∧ 0 ≤ z ∧ z ≤ 1048576) (fun _ i => n3 - (intOf i).toNat)
              case atStart => exact ⟨0, _, Nat.zero_le _, rfl, rfl, by omega, by omega⟩
              case round =>
                obtain ⟨k3, z3, hk3, rfl, rfl, hz3, hz3'⟩ := hrel
                by_cases hlt3 : k3 < n3
                · obtain rfl := Ha3.out (by omega)
                  obtain ⟨g1, g2⟩ := Hc3.out k3 hlt3
                  by_cases q1 : (s3 k3).size ≤ 1048576
                  · by_cases q2 : z3 + (s3 k3).size ≤ 1048576
                    · go_wp2
                      go_round
                      case rel => exact ⟨k3 + 1, _, by omega, by go_num, rfl, by omega, by omega⟩
                      case measure => simp [intOf]; omega
                    · go_wp2
                      go_ret
                      exact Small.no _ _
                  · go_wp2
                    go_ret
                    exact Small.no _ _
                · by_cases t5 : 1048576 < n5
                  · go_wp2
                    go_ret
                    exact Small.no _ _
                  by_cases t5s : 1048576 < z3 + n5
                  · go_wp2
                    go_ret
                    exact Small.no _ _
                  go_wp2
                  clear Ha3 Hc3
                  go_loop [15, 21] (fun t i => ∃ (k : Nat) (z : Int), k ≤ n5 ∧ i = .int .i64 k ∧ t = .int .i64 z ∧ 0 ≤ z ∧ z ≤ 1048576) (fun _ i => n5 - (intOf i).toNat)
                  case atStart => exact ⟨0, _, Nat.zero_le _, rfl, rfl, by omega, by omega⟩
                  case round =>
                    obtain ⟨k5, z5, hk5, rfl, rfl, hz5, hz5'⟩ := hrel
                    by_cases hlt5 : k5 < n5
                    · obtain rfl := Ha5.out (by omega)
                      obtain ⟨g1, g2⟩ := Hc5.out k5 hlt5
                      by_cases q1 : (s5 k5).size ≤ 1048576
                      · by_cases q2 : z5 + (s5 k5).size ≤ 1048576
                        · go_wp2
                          go_round
                          case rel => exact ⟨k5 + 1, _, by omega, by go_num, rfl, by omega, by omega⟩
                          case measure => simp [intOf]; omega
                        · go_wp2
                          go_ret
                          exact Small.no _ _
                      · go_wp2
                        go_ret
                        exact Small.no _ _
                    · by_cases t9 : 1048576 < wd.size
                      · go_wp2
                        go_ret
                        exact Small.no _ _
                      by_cases t9s : 1048576 < z5 + wd.size
                      · go_wp2
                        go_ret
                        exact Small.no _ _
                      go_wp2
                      go_ret
                      exact Small.yes _ ⟨by omega, by omega, by omega, fun i hi => hL.out i (by omega), by omega, by omega, by omega⟩
end Go.Proofs.Qxb6600978aMods
