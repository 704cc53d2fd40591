import Derived.Test.Qxb6001543aModsRows
import Derived.WalkKit
import Derived.ProofKit
import Derived.WalkSpells
import Derived.WalkLawsBesides
import Derived.Deep.QuietTactic
import Derived.BigQuiet
import Derived.Deep.RegionHeld3
import Derived.Deep.DrawnRows
namespace Go.Proofs.Qxb6001543aMods
open Go.RowKit

theorem bytes5 (a : ByteArray) (ha : a.size ≤ maxLen) (w : World) :
    Calls Trym.prog 5 #[.string a] w fun e w' => ∃ r : Bool, e = .returned (.bool r) ∧ (r = true → a.size ≤ 1048576) ∧ w' = w := by
  unfold maxLen at *
  go_enter Trym.func5, Trym.ntmps5
  go_wp2
  all_goals
    go_ret
    first
      | exact ⟨false, rfl, by simp, rfl⟩
      | exact ⟨true, rfl, fun _ => by omega, rfl⟩

theorem writers11 (s : ByteArray) (h : s.size ≤ 1048576) (w : World) :
    Calls Trym.prog 11 #[.string s] w fun x w' => x = .returned (.string (s ++ ⟨#[58, 119, 114, 105, 116, 101, 114, 115]⟩)) ∧ w' = w := by
  go_enter Trym.func11, Trym.ntmps11
  go_wp2
  go_ret
  exact ⟨rfl, rfl⟩

theorem queue10 (s : ByteArray) (h : s.size ≤ 1048576) (w : World) :
    Calls Trym.prog 10 #[.string s] w fun x w' => x = .returned (.slice (some ⟨w.heap.size, 0, none⟩) 3 3) ∧ w' = w.alloc (.cells #[.string s, .string (s ++ ⟨#[58, 113, 117, 101, 117, 101]⟩), .string (s ++ ⟨#[58, 113, 117, 101, 117, 101, 58, 108, 97, 112, 115, 101, 115]⟩)] 9) := by
  go_enter Trym.func10, Trym.ntmps10
  go_wp2
  go_ret
  exact ⟨rfl, rfl⟩

/-- The five keys, in the order of rwKeys. -/
def key (s : ByteArray) : Nat → ByteArray
  | 0 => s
  | 1 => s ++ ⟨#[58, 114, 101, 97, 100, 101, 114, 115]⟩
  | 2 => s ++ ⟨#[58, 119, 114, 105, 116, 101, 114, 115]⟩
  | 3 => s ++ ⟨#[58, 113, 117, 101, 117, 101]⟩
  | _ => s ++ ⟨#[58, 113, 117, 101, 117, 101, 58, 108, 97, 112, 115, 101, 115]⟩

/-- What rwKeys leaves: a row of five strings in a new block. -/
def Keys (s : ByteArray) (B : Nat) (w w' : World) : Prop :=
  Grown w w' ∧ ∀ i, i < 5 → w'.cell? ⟨B, i, none⟩ = some (.string (key s i))

set_option maxHeartbeats 400000 in
theorem rw9 (s : ByteArray) (h : s.size ≤ 1048576) (w : World) :
    Calls Trym.prog 9 #[.string s] w fun x w' => x = .returned (.slice (some ⟨w.heap.size + 1, 0, none⟩) 5 5) ∧ Keys s (w.heap.size + 1) w w' := by
  have h8 : ¬ 9223372036854775807 < s.size + 8 := by omega
  go_enter Trym.func9, Trym.ntmps9
  go_wp2_with fail
  refine (queue10 s h _).mono ?_
  rintro x w' ⟨rfl, hw⟩
  subst hw
  go_wp2_with fail
  go_region_held3 (fun w' => w'.cell? ⟨w.heap.size, 1, none⟩ = some (.string (s ++ ⟨#[58, 113, 117, 101, 117, 101]⟩)) ∧ w'.cell? ⟨w.heap.size, 2, none⟩ = some (.string (s ++ ⟨#[58, 113, 117, 101, 117, 101, 58, 108, 97, 112, 115, 101, 115]⟩))) (go_keep)
    (first | (go_at_call 11; refine (writers11 s h _).mono ?_; rintro x w' ⟨rfl, rfl⟩))
  go_wp2
  go_ret
  refine ⟨rfl, (((Grown.refl _).alloc _ _).alloc _ _).drew, ?_⟩
  intro i hi
  rcases i with _ | _ | _ | _ | _ | i
  iterate 5 (simp [key])
  omega

theorem zz6 (s : ByteArray) (h : s.size ≤ 1048576) (w : World) :
    Calls Trym.prog 6 #[.string s] w fun x w' => x = .returned (.slice (some ⟨w.heap.size + 1, 0, none⟩) 5 5) ∧ Keys s (w.heap.size + 1) w w' := by
  go_enter Trym.func6, Trym.ntmps6
  go_wp2_with fail
  refine (rw9 s h _).mono ?_
  rintro x w' ⟨rfl, hk⟩
  go_wp2_with fail
  go_ret
  exact ⟨rfl, hk⟩
end Go.Proofs.Qxb6001543aMods
