import Derived.Test.Qxb6001626aModsRows
import Derived.WalkKit
import Derived.ProofKit
import Derived.WalkSpells
import Derived.WalkLawsBesides
import Derived.Deep.QuietTactic
import Derived.BigQuiet
import Derived.Deep.OwnRows
namespace Go.Proofs.Qxb6001626aMods
open Go.RowKit

/-! ### THE PLAIN FUNCTIONS -/
def nzB (g : Nat → Int) (n : Nat) : Bool := (List.range n).any fun i => g i != 0
def missB (f g : Nat → Int) (n : Nat) : Bool := (List.range n).any fun i => g i != 0 && g i != f i
theorem nz_no {g : Nat → Int} {n : Nat} (h : ∀ i, i < n → g i = 0) : nzB g n = false := by
  unfold nzB
  rw [List.any_eq_false]
  intro i hi
  simp [h i (List.mem_range.1 hi)]
theorem nz_yes {g : Nat → Int} {n : Nat} (k : Nat) (hk : k < n) (h : (g k != 0) = true) : nzB g n = true := by
  unfold nzB
  rw [List.any_eq_true]
  exact ⟨k, List.mem_range.2 hk, h⟩
theorem miss_no {f g : Nat → Int} {n : Nat} (h : ∀ i, i < n → (g i != 0 && g i != f i) = false) : missB f g n = false := by
  unfold missB
  rw [List.any_eq_false]
  intro i hi
  simp [h i (List.mem_range.1 hi)]
theorem miss_yes {f g : Nat → Int} {n : Nat} (k : Nat) (hk : k < n) (h : (g k != 0) = true) (h' : (g k != f k) = true) : missB f g n = true := by
  unfold missB
  rw [List.any_eq_true]
  exact ⟨k, List.mem_range.2 hk, by rw [h, h']; rfl⟩
theorem miss_self (f : Nat → Int) (n : Nat) : missB f f n = false := miss_no fun i _ => by simp
theorem miss_zero (f : Nat → Int) (n : Nat) : missB f (fun _ => 0) n = false := miss_no fun i _ => by simp
theorem miss_from_zero (g : Nat → Int) (n : Nat) : missB (fun _ => 0) g n = nzB g n := by
  unfold missB nzB
  congr 1
  funext i
  simp

/-- A slice of n uint64: its elements are f 0 .. f (n-1). -/
def Seg (w : World) (a : Option Addr) (n : Nat) (f : Nat → Int) : Prop :=
  n = 0 ∨ ∃ b off, a = some ⟨b, off, none⟩ ∧ ∀ i, i < n → w.cell? ⟨b, off + i, none⟩ = some (.int .u64 (f i))

theorem ret_bool {a b : Bool} (h : a = b) : Ending.returned (.bool a) = .returned (.bool b) := by rw [h]

theorem bytes6 (a : Option Addr) (n c : Nat) (hn : n ≤ maxLen) (w : World) :
    Calls Trym.prog 6 #[.slice a n c] w fun e w' => ∃ r : Bool, e = .returned (.bool r) ∧ w' = w := by
  unfold maxLen at *
  go_enter Trym.func6, Trym.ntmps6
  go_wp2
  all_goals
    go_ret
    first
      | exact ⟨false, rfl, rfl⟩
      | exact ⟨true, rfl, rfl⟩

set_option maxHeartbeats 400000 in
theorem nz9 (a : Option Addr) (n c : Nat) (hn : n ≤ maxLen) (g : Nat → Int) (w : World) (hs : Seg w a n g) :
    Calls Trym.prog 9 #[.slice a n c] w fun e w' => e = .returned (.bool (nzB g n)) ∧ w' = w := by
  unfold maxLen at *
  rcases hs with rfl | ⟨b, off, rfl, hc⟩
  · go_enter Trym.func9, Trym.ntmps9
    go_wp2
    go_loop [3] (fun i => i = .int .i64 0) (fun _ => 0)
    case atStart => rfl
    case round =>
      subst hrel
      go_wp2
      go_ret
      exact ⟨rfl, rfl⟩
  · go_enter Trym.func9, Trym.ntmps9
    go_wp2
    go_loop [3] (fun i => ∃ k : Nat, k ≤ n ∧ i = .int .i64 k ∧ ∀ j, j < k → g j = 0) (fun i => n - (intOf i).toNat)
    case atStart => exact ⟨0, Nat.zero_le _, rfl, fun j hj => absurd hj (Nat.not_lt_zero _)⟩
    case round =>
      obtain ⟨k, hk, rfl, hz⟩ := hrel
      have Hz : Hid (∀ j, j < k → g j = 0) := hz
      clear hz
      by_cases hlt : k < n
      · have hck := hc k hlt
        have Hc : Hid (∀ i, i < n → w.cell? ⟨b, off + i, none⟩ = some (.int .u64 (g i))) := hc
        clear hc
        cases hg : g k != 0
        · go_wp2
          go_round
          case rel =>
            refine ⟨k + 1, by omega, by go_num, fun j hj => ?_⟩
            by_cases e : j = k
            · subst e; simpa using hg
            · exact Hz.out j (by omega)
          case measure => simp [intOf]; omega
        · go_wp2
          go_ret
          exact ⟨ret_bool (nz_yes k hlt hg).symm, rfl⟩
      · go_wp2
        go_ret
        exact ⟨ret_bool (nz_no (fun i hi => Hz.out i (by omega))).symm, rfl⟩

set_option maxHeartbeats 400000 in
theorem miss12 (a1 : Option Addr) (n1 c1 : Nat) (f : Nat → Int) (a2 : Option Addr) (n2 c2 : Nat) (g : Nat → Int) (hn1 : n1 ≤ maxLen) (hn : n2 ≤ n1) (w : World) (hf : Seg w a1 n1 f) (hg : Seg w a2 n2 g) :
    Calls Trym.prog 12 #[.slice a1 n1 c1, .slice a2 n2 c2] w fun e w' => e = .returned (.bool (missB f g n2)) ∧ ∃ n, w' = w.drewN n := by
  unfold maxLen at *
  rcases hg with rfl | ⟨b2, off2, rfl, hc2⟩
  · go_enter Trym.func12, Trym.ntmps12
    go_wp2
    go_loop [8] (fun i => i = .int .i64 0) (fun _ => 0)
    case atStart => rfl
    case round =>
      subst hrel
      go_wp2
      go_ret
      exact ⟨rfl, 0, rfl⟩
  rcases hf with rfl | ⟨b1, off1, rfl, hc1⟩
  · obtain rfl : n2 = 0 := by omega
    go_enter Trym.func12, Trym.ntmps12
    go_wp2
    go_loop [8] (fun i => i = .int .i64 0) (fun _ => 0)
    case atStart => rfl
    case round =>
      subst hrel
      go_wp2
      go_ret
      exact ⟨rfl, 0, rfl⟩
  have Hc1 : Hid (∀ i, i < n1 → w.cell? ⟨b1, off1 + i, none⟩ = some (.int .u64 (f i))) := hc1
  have Hc2 : Hid (∀ i, i < n2 → w.cell? ⟨b2, off2 + i, none⟩ = some (.int .u64 (g i))) := hc2
  clear hc1 hc2
  go_enter Trym.func12, Trym.ntmps12
  go_wp2
  go_loopw [8] (fun i wr => ∃ k n : Nat, k ≤ n2 ∧ i = .int .i64 k ∧ wr = w.drewN n ∧ ∀ j, j < k → (g j != 0 && g j != f j) = false) (fun i _ => n2 - (intOf i).toNat)
  case atStart => exact ⟨0, 0, Nat.zero_le _, rfl, rfl, fun j hj => absurd hj (Nat.not_lt_zero _)⟩
  case round =>
    obtain ⟨k, n, hk, rfl, rfl, hz⟩ := hrel
    have Hz : Hid (∀ j, j < k → (g j != 0 && g j != f j) = false) := hz
    clear hz
    have step : (g k != 0 && g k != f k) = false → ∀ j, j < k + 1 → (g j != 0 && g j != f j) = false := fun h j hj => by
      by_cases e : j = k
      · subst e; exact h
      · exact Hz.out j (by omega)
    have Hs : Hid ((g k != 0 && g k != f k) = false → ∀ j, j < k + 1 → (g j != 0 && g j != f j) = false) := step
    clear step
    by_cases hlt : k < n2
    · have h1 := Hc1.out k (by omega)
      have h2 := Hc2.out k hlt
      have hk1 : (k : Int) < (n1 : Int) := by omega
      have hk2 : (k : Int) < (n2 : Int) := by omega
      generalize hG : g k = G at *
      generalize hF : f k = F at *
      have HG : Hid (g k = G) := hG
      have HF : Hid (f k = F) := hF
      clear hG hF
      cases hg : G != 0
      · go_wp2
        go_quiet (fail)
        go_wp2
        go_roundw
        case rel => exact ⟨k + 1, n + nq, by omega, by go_num, rfl, Hs.out (by rw [hg]; rfl)⟩
        case measure => simp [intOf]; omega
      · cases he : G != F
        · go_wp2
          go_quiet (fail)
          go_wp2
          go_roundw
          case rel => exact ⟨k + 1, n + nq, by omega, by go_num, rfl, Hs.out (by rw [hg, he]; rfl)⟩
          case measure => simp [intOf]; omega
        · go_wp2
          go_quiet (fail)
          go_wp2
          go_ret
          exact ⟨ret_bool (miss_yes k hlt (by rw [HG.out]; exact hg) (by rw [HG.out, HF.out]; exact he)).symm, n + nq, by simp⟩
    · go_wp2
      go_ret
      exact ⟨ret_bool (miss_no (fun i hi => Hz.out i (by omega))).symm, n, rfl⟩

theorem zz8 (a1 : Option Addr) (n1 c1 : Nat) (f : Nat → Int) (a2 : Option Addr) (n2 c2 : Nat) (g : Nat → Int) (hn1 : n1 ≤ maxLen) (hn : n2 ≤ n1) (w : World) (hf : Seg w a1 n1 f) (hg : Seg w a2 n2 g) :
    Calls Trym.prog 8 #[.slice a1 n1 c1, .slice a2 n2 c2] w fun e w' => e = .returned (.bool (missB f g n2)) ∧ ∃ n, w' = w.drewN n := by
  go_enter Trym.func8, Trym.ntmps8
  go_wp2_with fail
  refine (miss12 a1 n1 c1 f a2 n2 c2 g hn1 hn _ hf hg).mono ?_
  rintro x w' ⟨rfl, n, rfl⟩
  go_wp2_with fail
  go_ret
  exact ⟨rfl, n, rfl⟩
end Go.Proofs.Qxb6001626aMods
