import Derived.Test.Qxb6001626aModsClone
namespace Go.Proofs.Qxb6001626aMods
open Go.RowKit

theorem seg_row {w : World} {B n : Nat} {f : Nat → Int} (h : w.rowIs B 27 n (fun i => .int .u64 (f i))) : Seg w (some ⟨B, 0, none⟩) n f :=
  .inr ⟨B, 0, rfl, fun i hi => by rw [Nat.zero_add]; exact h.cell hi⟩
theorem bdrewN {B : Nat} {a w : World} (h : Below B a w) (n : Nat) : Below B a (w.drewN n) := ⟨h.os, h.tape, h.output, h.size, h.block⟩
theorem rdrewN {w : World} {b : Nat} {t : TypeId} {n : Nat} {f : Nat → Value} (h : w.rowIs b t n f) (m : Nat) : (w.drewN m).rowIs b t n f := h

set_option maxHeartbeats 1000000 in
theorem lawWalk (a0 : Option Addr) (n c : Nat) (f : Nat → Int) (hn : n ≤ maxLen) (w : World) (hs : Seg w a0 n f) (hnil : a0 = none → n = 0) :
    Calls Trym.prog 3 #[.slice a0 n c] w fun e w' => e = .returned (.bool true) ∧ Below w.heap.size w w' := by
  have hmax : n ≤ 9223372036854775807 := hn
  go_enter Trym.func3, Trym.ntmps3
  go_wp2_with fail
  refine (bytes6 _ _ _ hn _).mono ?_
  rintro x w' ⟨b, rfl, rfl⟩
  cases b
  · go_wp2
    go_ret
    exact ⟨rfl, Below.refl _ _⟩
  by_cases h16 : n ≤ 65536
  · cases a0 with
    | none =>
      obtain rfl := hnil rfl
      have hmk : ∀ w, (Instr.makeSlice 22 (.int .i64 0) (.int .i64 0)).run Trym.prog w = .ok (.slice (some ⟨w.heap.size, 0, none⟩) 0 0) (w.alloc (.cells (madeCells #[.int .u64 0] 0) 27)) := fun w => run_make_row' (P := Trym.prog) 22 27 (.int .u64 0) 8 Trym.underlying22 info27 rfl .i64 .i64 0 (by omega) (by omega) w
      go_wp2_with fail
      refine (clone7_nil _ _ _).mono ?_
      rintro x w' ⟨rfl, rfl⟩
      go_wp2_with fail
      refine (zz8 _ 0 _ (fun _ => 0) _ 0 _ (fun _ => 0) hn (Nat.le_refl _) _ (.inl rfl) (.inl rfl)).mono ?_
      rintro x w2 ⟨rfl, m1, rfl⟩
      rw [miss_self]
      go_wp2_with fail
      refine (zz8 _ 0 _ (fun _ => 0) _ 0 _ (fun _ => 0) hn (Nat.le_refl _) _ (.inl rfl) (.inl rfl)).mono ?_
      rintro x w2 ⟨rfl, m2, rfl⟩
      rw [miss_self]
      go_wp2_with fail
      refine (zz8 _ 0 _ (fun _ => 0) _ 0 _ (fun _ => 0) hn (Nat.le_refl _) _ (.inl rfl) (.inl rfl)).mono ?_
      rintro x w2 ⟨rfl, m3, rfl⟩
      rw [miss_self]
      go_wp2_with fail
      refine (zz8 _ 0 _ (fun _ => 0) _ 0 _ (fun _ => 0) hn (Nat.le_refl _) _ (.inl rfl) (.inl rfl)).mono ?_
      rintro x w2 ⟨rfl, m4, rfl⟩
      rw [miss_from_zero]
      go_wp2_with fail
      refine (nz9 _ 0 _ hn (fun _ => 0) _ (.inl rfl)).mono ?_
      rintro x w2 ⟨rfl, hw2⟩
      rw [hw2]
      clear hw2 w2
      go_wp2_with fail
      go_ret
      exact ⟨ret_bool (by simp), bdrewN ((bdrewN (Below.refl _ _) _).alloc (Nat.le_refl _) _) _⟩
    | some x =>
      have hmk := run_make_row' (P := Trym.prog) 22 27 (.int .u64 0) 8 Trym.underlying22 info27 rfl .i64 .i64 n (by omega) (by omega)
      have Hs : Hid (Seg w' (some x) n f) := hs
      clear hs
      go_wp2_with fail
      refine (clone7 _ _ _ h16 f _ Hs.out).mono ?_
      rintro x w1 ⟨rfl, hbel, hrow⟩
      generalize hB : w'.heap.size = B at *
      have HB : Hid (w'.heap.size = B) := hB
      clear hB
      go_wp2_with fail
      refine (zz8 _ n _ f _ n _ f hn (Nat.le_refl _) _ (seg_row hrow) (seg_row hrow)).mono ?_
      rintro x w2 ⟨rfl, m1, rfl⟩
      rw [miss_self]
      go_wp2_with fail
      refine (zz8 _ n _ f _ 0 _ f hn (Nat.zero_le _) _ (seg_row (rdrewN hrow _)) (.inl rfl)).mono ?_
      rintro x w2 ⟨rfl, m2, rfl⟩
      rw [miss_self]
      go_wp2_with fail
      obtain ⟨W, hW⟩ : ∃ W, W = (w1.drewN (m1 + m2)).alloc (.cells (madeCells #[.int .u64 0] n) 27) := ⟨_, rfl⟩
      have r1 : W.rowIs B 27 n (fun i => .int .u64 (f i)) := by rw [hW]; exact (rdrewN hrow _).alloc _
      have r2 : W.rowIs w1.heap.size 27 n (fun i => .int .u64 ((fun _ => 0) i)) := by rw [hW]; exact World.rowIs_made (w1.drewN (m1 + m2)) _ n 27
      have hbW : Below B w' W := by rw [hW]; exact (bdrewN hbel _).alloc (Nat.le_of_lt hrow.lt) _
      rw [← hW]
      have Hr1 : Hid (W.rowIs B 27 n (fun i => .int .u64 (f i))) := r1
      have Hr2 : Hid (W.rowIs w1.heap.size 27 n (fun i => .int .u64 ((fun _ => 0) i))) := r2
      generalize w1.heap.size = C at *
      clear hW hrow hbel r1 r2 hmk
      refine (zz8 _ n _ f _ n _ (fun _ => 0) hn (Nat.le_refl _) _ (seg_row Hr1.out) (seg_row Hr2.out)).mono ?_
      rintro x w2 ⟨rfl, m3, rfl⟩
      rw [miss_zero]
      go_wp2_with fail
      refine (zz8 _ n _ (fun _ => 0) _ n _ f hn (Nat.le_refl _) _ (seg_row (rdrewN Hr2.out _)) (seg_row (rdrewN Hr1.out _))).mono ?_
      rintro x w2 ⟨rfl, m4, rfl⟩
      rw [miss_from_zero]
      go_wp2_with fail
      refine (nz9 _ n _ hn f _ (seg_row (rdrewN Hr1.out _))).mono ?_
      rintro x w2 ⟨rfl, hw2⟩
      rw [hw2]
      clear hw2 w2
      go_wp2_with fail
      go_ret
      exact ⟨ret_bool (by simp), by rw [HB.out]; exact bdrewN hbW _⟩
  · go_wp2
    go_ret
    exact ⟨rfl, Below.refl _ _⟩
end Go.Proofs.Qxb6001626aMods
