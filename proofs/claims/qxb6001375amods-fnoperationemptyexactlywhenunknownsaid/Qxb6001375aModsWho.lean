import Derived.Test.Qxb6001375aModsLeaf
namespace Go.Proofs.Qxb6001375aMods
open Go.RowKit

/-- The service is not known. -/
theorem who8_none (s o r e : ByteArray) (hs : s.toList.isEmpty = true) (w : World) :
    Calls Trym.prog 8 #[.agg #[.string s, .string o, .string r, .string e]] w fun x w' => x = .returned (.string ⟨#[116, 104, 101, 32, 115, 111, 117, 114, 99, 101]⟩) ∧ Grown w w' := by
  go_enter Trym.func8, Trym.ntmps8
  go_wp2
  go_ret
  exact ⟨rfl, by repeat (first | exact Grown.refl _ | apply Grown.drew | apply Grown.alloc)⟩

/-- The service is known, the endpoint is not. -/
theorem who8_bare (s o r e : ByteArray) (hs : s.toList.isEmpty = false) (he : e.toList.isEmpty = true) (w : World) :
    Calls Trym.prog 8 #[.agg #[.string s, .string o, .string r, .string e]] w fun x w' => x = .returned (.string s) ∧ Grown w w' := by
  go_enter Trym.func8, Trym.ntmps8
  go_wp2
  go_ret
  exact ⟨rfl, by repeat (first | exact Grown.refl _ | apply Grown.drew | apply Grown.alloc)⟩

/-- Both are known. -/
theorem who8_both (s o r e : ByteArray) (h : s.size + e.size ≤ 1048576) (hs : s.toList.isEmpty = false) (he : e.toList.isEmpty = false) (w : World) :
    Calls Trym.prog 8 #[.agg #[.string s, .string o, .string r, .string e]] w fun x w' => x = .returned (.string (s ++ ⟨#[32, 97, 116, 32]⟩ ++ e)) ∧ Grown w w' := by
  go_enter Trym.func8, Trym.ntmps8
  go_wp2
  go_ret
  exact ⟨rfl, by repeat (first | exact Grown.refl _ | apply Grown.drew | apply Grown.alloc)⟩

theorem gtrans {a b c : World} (h1 : Grown a b) (h2 : Grown b c) : Grown a c :=
  ⟨World.keptBut_trans h1.1 h2.1, fun x => (h2.2.1 x).trans (h1.2.1 x), Nat.le_trans h1.2.2 h2.2.2⟩
theorem gdrewN {a b : World} (h : Grown a b) (n : Nat) : Grown a (b.drewN n) := h

theorem at_pre (s m e : ByteArray) (i : Nat) (hi : i < s.size) : (s ++ m ++ e)[i]'(by simp; omega) = s[i] := by
  rw [ByteArray.getElem_append_left (by simp; omega), ByteArray.getElem_append_left hi]
theorem at_suf (s e : ByteArray) (i : Nat) (hi : i < e.size) : (s ++ e)[(s ++ e).size - e.size + i]'(by simp; omega) = e[i] := by
  rw [ByteArray.getElem_append_right (by simp)]
  congr 1
  simp

theorem ret_bool {a b : Bool} (h : a = b) : Ending.returned (.bool a) = .returned (.bool b) := by rw [h]
theorem empty_iff (s : ByteArray) : s.toList.isEmpty = true ↔ s.size = 0 := by
  rw [List.isEmpty_iff_length_eq_zero, Go.ByteArray.toList_eq]; simp
theorem ne_two (s m e : ByteArray) (h : s.toList.isEmpty = false) : (s ++ m ++ e).toList.isEmpty = false := by
  rw [← Bool.not_eq_true, empty_iff] at *
  rw [ByteArray.size_append, ByteArray.size_append]
  omega

set_option maxHeartbeats 400000 in
theorem whoWalk (a0 : ByteArray) (a1 : ByteArray) (a2 : ByteArray) (a3 : ByteArray) (w0 : a0.size ≤ maxLen) (w1 : a1.size ≤ maxLen) (w2 : a2.size ≤ maxLen) (w3 : a3.size ≤ maxLen) (w : World) :
    Calls Trym.prog 3 #[.string a0, .string a1, .string a2, .string a3] w fun e w' => e = .returned (.bool true) ∧ Grown w w' := by
  go_enter Trym.func3, Trym.ntmps3
  go_wp2_with fail
  refine (bytes7 _ _ _ _ w0 w1 w2 w3 _).mono ?_
  rintro x w' ⟨b, rfl, hb, rfl⟩
  cases b
  · go_wp2
    go_ret
    exact ⟨rfl, Grown.refl _⟩
  have hsum := hb rfl
  clear hb
  unfold maxLen at w0 w1 w2 w3
  cases hs : a0.toList.isEmpty
  · cases he : a3.toList.isEmpty
    · go_wp2_with fail
      refine (who8_both _ _ _ _ (by omega) hs he _).mono ?_
      rintro x w' ⟨rfl, hg⟩
      obtain ⟨W, hW⟩ : ∃ W, W = a0 ++ ⟨#[32, 97, 116, 32]⟩ ++ a3 := ⟨_, rfl⟩
      rw [← hW]
      have hn : W.toList.isEmpty = false := by rw [hW]; exact ne_two a0 _ a3 hs
      have hl : a0.size + a3.size < W.size := by rw [hW, ByteArray.size_append, ByteArray.size_append, show (ByteArray.mk #[32, 97, 116, 32]).size = 4 from rfl]; omega
      have hu : W.size ≤ 1048580 := by rw [hW, ByteArray.size_append, ByteArray.size_append, show (ByteArray.mk #[32, 97, 116, 32]).size = 4 from rfl]; omega
      have hp : ∀ i (hi : i < a0.size), W[i]'(by omega) = a0[i] := by
        subst hW; exact fun i hi => at_pre a0 _ a3 i hi
      have hq : ∀ i (hi : i < a3.size), W[W.size - a3.size + i]'(by omega) = a3[i] := by
        subst hW; exact fun i hi => at_suf _ a3 i hi
      clear hW
      have Hp : Hid (∀ i (hi : i < a0.size), W[i]'(by omega) = a0[i]) := hp
      have Hq : Hid (∀ i (hi : i < a3.size), W[W.size - a3.size + i]'(by omega) = a3[i]) := hq
      clear hp hq
      go_wp2_with fail
      refine (pre9 W a0 (by unfold maxLen; omega) (by omega) Hp.out _).mono ?_
      rintro x w1 ⟨rfl, n, rfl⟩
      go_wp2_with fail
      refine (suf10 W a3 (by unfold maxLen; omega) (by omega) Hq.out _).mono ?_
      rintro x w1 ⟨rfl, m, rfl⟩
      go_wp2_with fail
      go_ret
      exact ⟨ret_bool (decide_eq_true (by omega)), gdrewN (gdrewN (gtrans ((Grown.refl _).alloc _ _) hg) n) m⟩
    · go_wp2_with fail
      refine (who8_bare _ _ _ _ hs he _).mono ?_
      rintro x w' ⟨rfl, hg⟩
      go_wp2_with fail
      refine (pre9 _ _ (by unfold maxLen; omega) (Nat.le_refl _) (fun _ _ => rfl) _).mono ?_
      rintro x w1 ⟨rfl, n, rfl⟩
      go_wp2_with fail
      go_ret
      exact ⟨rfl, gdrewN (gtrans ((Grown.refl _).alloc _ _) hg) n⟩
  · go_wp2_with fail
    refine (who8_none _ _ _ _ hs _).mono ?_
    rintro x w' ⟨rfl, hg⟩
    go_wp2
    go_ret
    exact ⟨rfl, gtrans ((Grown.refl _).alloc _ _) hg⟩
end Go.Proofs.Qxb6001375aMods
