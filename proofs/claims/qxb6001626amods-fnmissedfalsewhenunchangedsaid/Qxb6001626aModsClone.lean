import Derived.Test.Qxb6001626aModsMiss
import Derived.Lib.SliceRun
namespace Go.Proofs.Qxb6001626aMods
open Go.RowKit

theorem info27 : (Trym.prog.info? 27).map (fun i => (i.zero, i.size, i.bytes)) = some (some (.int .u64 0), 1, 8) := by kernel_rfl

theorem clone7_nil (n c : Nat) (w : World) :
    Calls Trym.prog 7 #[.slice none n c] w fun e w' => e = .returned (.slice none 0 0) ∧ w' = w := by
  have q22 : ∀ (w : World) (a : Option Addr) (n c n' c' : Nat), (binOp .eql 22 (.slice a n c) (.slice none n' c')).run Trym.prog w = .ok (.bool a.isNone) w := fun w a n c n' c' => Lib.run_eql_slice_nil w _ _ a n c n' c' Trym.underlying22
  go_enter Trym.func7, Trym.ntmps7
  go_wp2
  go_ret
  exact ⟨rfl, rfl⟩

/-- The copy while it is made: k cells are copied. -/
def Half (w wr : World) (n : Nat) (f : Nat → Int) (k : Nat) : Prop :=
  Below w.heap.size w wr ∧ wr.rowIs w.heap.size 27 n (fun i => .int .u64 (if i < k then f i else 0))
theorem Half.step {w wr : World} {n : Nat} {f : Nat → Int} {k : Nat} (h : Half w wr n f k) : Half w (wr.setCell ⟨w.heap.size, k, none⟩ (.int .u64 (f k))) n f (k + 1) := by
  refine ⟨h.1.setCell (Nat.le_refl _) _, (h.2.set k _).congr fun i _ => ?_⟩
  by_cases e : i = k
  · subst e; simp
  · rw [if_neg e]
    by_cases hlt : i < k
    · rw [if_pos hlt, if_pos (by omega)]
    · rw [if_neg hlt, if_neg (by omega)]

set_option maxHeartbeats 400000 in
theorem clone7 (x : Addr) (n c : Nat) (hn : n ≤ 65536) (f : Nat → Int) (w : World) (hs : Seg w (some x) n f) :
    Calls Trym.prog 7 #[.slice (some x) n c] w fun e w' => e = .returned (.slice (some ⟨w.heap.size, 0, none⟩) n n) ∧ Below w.heap.size w w' ∧ w'.rowIs w.heap.size 27 n (fun i => .int .u64 (f i)) := by
  have q22 : ∀ (w : World) (a : Option Addr) (n c n' c' : Nat), (binOp .eql 22 (.slice a n c) (.slice none n' c')).run Trym.prog w = .ok (.bool a.isNone) w := fun w a n c n' c' => Lib.run_eql_slice_nil w _ _ a n c n' c' Trym.underlying22
  have hmk := run_make_row' (P := Trym.prog) 22 27 (.int .u64 0) 8 Trym.underlying22 info27 rfl .i64 .i64 n (by omega) (by omega)
  go_enter Trym.func7, Trym.ntmps7
  go_wp2
  clear hmk q22
  go_loopw [4] (fun i wr => ∃ k : Nat, k ≤ n ∧ i = .int .i64 k ∧ Half w wr n f k) (fun i _ => n - (intOf i).toNat)
  case atStart =>
    exact ⟨0, Nat.zero_le _, rfl, (Below.refl _ _).alloc (Nat.le_refl _) _, (World.rowIs_made w _ n 27).congr fun i _ => by simp⟩
  case round =>
    obtain ⟨k, hk, rfl, hh⟩ := hrel
    by_cases hlt : k < n
    · rcases hs with rfl | ⟨b, off, hx, hc⟩
      · omega
      obtain rfl : x = ⟨b, off, none⟩ := by simpa using hx
      have g1 : wr.cell? ⟨b, off + k, none⟩ = some (.int .u64 (f k)) := (hh.1.cell (p := ⟨b, off + k, none⟩) (World.block_lt_of_cell? _ _ (hc k hlt))).trans (hc k hlt)
      have g2 := hh.2.cell hlt
      have g3 := hh.2.frozen k
      have Hh : Hid (Half w wr n f k) := hh
      clear hh hc hx
      simp only [Nat.lt_irrefl, if_false] at g2
      go_wp2
      go_roundw
      case rel => exact ⟨k + 1, by omega, by go_num, Hh.out.step⟩
      case measure => simp [intOf]; omega
    · go_wp2
      go_ret
      exact ⟨rfl, hh.1, hh.2.congr fun i hi => by rw [if_pos (by omega)]⟩
end Go.Proofs.Qxb6001626aMods
