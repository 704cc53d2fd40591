import Derived.Test.Qxb6001543aModsKeys
namespace Go.Proofs.Qxb6001543aMods
open Go.RowKit

theorem gtrans {a b c : World} (h1 : Grown a b) (h2 : Grown b c) : Grown a c :=
  ⟨World.keptBut_trans h1.1 h2.1, fun x => (h2.2.1 x).trans (h1.2.1 x), Nat.le_trans h1.2.2 h2.2.2⟩
theorem gdrewN {a b : World} (h : Grown a b) (n : Nat) : Grown a (b.drewN n) := h

/-! ### THE PLAIN LAW: no two of the five keys are equal -/
def tail : Nat → List UInt8
  | 0 => []
  | 1 => [58, 114, 101, 97, 100, 101, 114, 115]
  | 2 => [58, 119, 114, 105, 116, 101, 114, 115]
  | 3 => [58, 113, 117, 101, 117, 101]
  | _ => [58, 113, 117, 101, 117, 101, 58, 108, 97, 112, 115, 101, 115]
theorem key_list (s : ByteArray) : ∀ i, i < 5 → (key s i).toList = s.data.toList ++ tail i
  | 0, _ => by rw [Go.ByteArray.toList_eq]; simp [key, tail]
  | 1, _ => by rw [Go.ByteArray.toList_eq]; simp [key, tail]
  | 2, _ => by rw [Go.ByteArray.toList_eq]; simp [key, tail]
  | 3, _ => by rw [Go.ByteArray.toList_eq]; simp [key, tail]
  | 4, _ => by rw [Go.ByteArray.toList_eq]; simp [key, tail]
theorem tail_ne : ∀ i, i < 5 → ∀ j, j < 5 → i ≠ j → tail i ≠ tail j := by decide
theorem key_ne (s : ByteArray) (i j : Nat) (hi : i < 5) (hj : j < 5) (h : i ≠ j) : ((key s i).toList == (key s j).toList) = false := by
  rw [beq_eq_false_iff_ne, key_list s i hi, key_list s j hj]
  intro e
  exact tail_ne i hi j hj h (List.append_cancel_left e)

set_option maxHeartbeats 400000 in
theorem distinctWalk (a0 : ByteArray) (w0 : a0.size ≤ maxLen) (w : World) :
    Calls Trym.prog 3 #[.string a0] w fun e w' => e = .returned (.bool true) ∧ Grown w w' := by
  go_enter Trym.func3, Trym.ntmps3
  go_wp2_with fail
  refine (bytes5 _ w0 _).mono ?_
  rintro x w' ⟨b, rfl, hb, rfl⟩
  cases b
  · go_wp2
    go_ret
    exact ⟨rfl, Grown.refl _⟩
  have hsum := hb rfl
  clear hb
  go_wp2_with fail
  refine (zz6 _ hsum _).mono ?_
  rintro x w1 ⟨rfl, hg, hk⟩
  have Hk : Hid (∀ i, i < 5 → w1.cell? ⟨w'.heap.size + 1, i, none⟩ = some (.string (key a0 i))) := hk
  clear hk
  generalize w'.heap.size + 1 = B at *
  go_wp2_with fail
  go_loopw [4] (fun i wr => ∃ k n : Nat, k ≤ 5 ∧ i = .int .i64 k ∧ wr = w1.drewN n) (fun i _ => 5 - (intOf i).toNat)
  case atStart => exact ⟨0, 0, by omega, rfl, rfl⟩
  case round =>
    obtain ⟨k, n, hk5, rfl, rfl⟩ := hrel
    by_cases hlt : k < 5
    · go_wp2
      go_loopw [5] (fun j wr => ∃ m n : Nat, k < m ∧ m ≤ 5 ∧ j = .int .i64 m ∧ wr = w1.drewN n) (fun j _ => 5 - (intOf j).toNat)
      case atStart => exact ⟨k + 1, n, by omega, by omega, by go_num, rfl⟩
      case round =>
        obtain ⟨m, n', hkm, hm5, rfl, rfl⟩ := hrel
        by_cases hlm : m < 5
        · have hne := key_ne a0 k m hlt hlm (by omega)
          have g1 := Hk.out k hlt
          have g2 := Hk.out m hlm
          generalize key a0 k = A at hne g1
          generalize key a0 m = C at hne g2
          go_wp2
          go_region
          all_goals
            go_wp2
            go_roundw
            case rel => exact ⟨m + 1, n' + 1, by omega, by omega, by go_num, rfl⟩
            case measure => simp [intOf]; omega
        · go_wp2
          go_roundw
          case rel => exact ⟨k + 1, n', by omega, by go_num, rfl⟩
          case measure => simp [intOf]; omega
    · go_wp2
      go_ret
      exact ⟨rfl, gdrewN hg n⟩
end Go.Proofs.Qxb6001543aMods
