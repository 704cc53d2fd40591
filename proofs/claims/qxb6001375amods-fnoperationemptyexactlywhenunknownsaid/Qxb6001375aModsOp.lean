import Derived.Test.Qxb6001375aModsWho
namespace Go.Proofs.Qxb6001375aMods
open Go.RowKit

set_option maxHeartbeats 400000 in
theorem bytes12 (a b c d : ByteArray) (ha : a.size ≤ maxLen) (hb : b.size ≤ maxLen) (hc : c.size ≤ maxLen) (hd : d.size ≤ maxLen) (w : World) :
    Calls Trym.prog 12 #[.string a, .string b, .string c, .string d] w fun e w' => ∃ r : Bool, e = .returned (.bool r) ∧ (r = true → a.size + b.size + c.size + d.size ≤ 1048576) ∧ w' = w := by
  unfold maxLen at *
  go_enter Trym.func12, Trym.ntmps12
  go_wp2
  all_goals
    go_ret
    first
      | exact ⟨false, rfl, by simp, rfl⟩
      | exact ⟨true, rfl, fun _ => by omega, rfl⟩

/-- The operation is not known. -/
theorem op13_none (s o r e : ByteArray) (ho : o.toList.isEmpty = true) (w : World) :
    Calls Trym.prog 13 #[.agg #[.string s, .string o, .string r, .string e]] w fun x w' => x = .returned (.string ⟨#[]⟩) ∧ Grown w w' := by
  go_enter Trym.func13, Trym.ntmps13
  go_wp2
  go_ret
  exact ⟨rfl, by repeat (first | exact Grown.refl _ | apply Grown.drew | apply Grown.alloc)⟩

/-- The operation is known, the role is not. -/
theorem op13_bare (s o r e : ByteArray) (h : o.size ≤ 1048576) (ho : o.toList.isEmpty = false) (hr : r.toList.isEmpty = true) (w : World) :
    Calls Trym.prog 13 #[.agg #[.string s, .string o, .string r, .string e]] w fun x w' => x = .returned (.string (⟨#[32]⟩ ++ o)) ∧ Grown w w' := by
  go_enter Trym.func13, Trym.ntmps13
  go_wp2
  go_ret
  exact ⟨rfl, by repeat (first | exact Grown.refl _ | apply Grown.drew | apply Grown.alloc)⟩

/-- Both are known. -/
theorem op13_both (s o r e : ByteArray) (h : o.size + r.size ≤ 1048576) (ho : o.toList.isEmpty = false) (hr : r.toList.isEmpty = false) (w : World) :
    Calls Trym.prog 13 #[.agg #[.string s, .string o, .string r, .string e]] w fun x w' => x = .returned (.string (⟨#[32]⟩ ++ o ++ ⟨#[32, 111, 102, 32]⟩ ++ r)) ∧ Grown w w' := by
  go_enter Trym.func13, Trym.ntmps13
  go_wp2
  go_ret
  exact ⟨rfl, by repeat (first | exact Grown.refl _ | apply Grown.drew | apply Grown.alloc)⟩

/-! ### THE PLAIN FACTS ON THE PHRASE -/
theorem size_sp : (ByteArray.mk #[32]).size = 1 := rfl
theorem size_of : (ByteArray.mk #[32, 111, 102, 32]).size = 4 := rfl
theorem head_sp (o : ByteArray) (h : 0 < (⟨#[32]⟩ ++ o : ByteArray).size) : (⟨#[32]⟩ ++ o : ByteArray)[0] = 32 := by
  rw [ByteArray.getElem_append_left (by rw [size_sp]; omega)]; rfl
theorem rest_sp (o : ByteArray) (i : Nat) (hi : i < o.size) (h : 1 + i < (⟨#[32]⟩ ++ o : ByteArray).size) : (⟨#[32]⟩ ++ o : ByteArray)[1 + i] = o[i] := by
  rw [ByteArray.getElem_append_right (by rw [size_sp]; omega)]
  congr 1
  rw [size_sp]; omega

theorem size_both (o r : ByteArray) : (⟨#[32]⟩ ++ o ++ ⟨#[32, 111, 102, 32]⟩ ++ r : ByteArray).size = 1 + o.size + 4 + r.size := by
  rw [ByteArray.size_append, ByteArray.size_append, ByteArray.size_append, size_sp, size_of]
theorem head_both (o r : ByteArray) (h : 0 < (⟨#[32]⟩ ++ o ++ ⟨#[32, 111, 102, 32]⟩ ++ r : ByteArray).size) : (⟨#[32]⟩ ++ o ++ ⟨#[32, 111, 102, 32]⟩ ++ r : ByteArray)[0] = 32 := by
  have h1 : 0 < (⟨#[32]⟩ ++ o : ByteArray).size := by rw [ByteArray.size_append, size_sp]; omega
  rw [ByteArray.getElem_append_left (by rw [ByteArray.size_append]; omega), ByteArray.getElem_append_left h1]
  exact head_sp o h1
theorem rest_both (o r : ByteArray) (i : Nat) (hi : i < o.size) (h : 1 + i < (⟨#[32]⟩ ++ o ++ ⟨#[32, 111, 102, 32]⟩ ++ r : ByteArray).size) : (⟨#[32]⟩ ++ o ++ ⟨#[32, 111, 102, 32]⟩ ++ r : ByteArray)[1 + i] = o[i] := by
  have h1 : 1 + i < (⟨#[32]⟩ ++ o : ByteArray).size := by rw [ByteArray.size_append, size_sp]; omega
  rw [ByteArray.getElem_append_left (by rw [ByteArray.size_append]; omega), ByteArray.getElem_append_left h1]
  exact rest_sp o i hi h1
theorem size_tail (W : ByteArray) : (W.extract 1 W.size).size = W.size - 1 := by simp
theorem at_tail (W : ByteArray) (i : Nat) (h : 1 + i < W.size) : (W.extract 1 W.size)[i]'(by rw [size_tail]; omega) = W[1 + i] := by
  rw [ByteArray.getElem_extract]

set_option maxHeartbeats 400000 in
/-- THE LAW's WALK: of the phrase W only what the tests ask. -/
theorem opWalk (a0 : ByteArray) (a1 : ByteArray) (a2 : ByteArray) (a3 : ByteArray) (w0 : a0.size ≤ maxLen) (w1 : a1.size ≤ maxLen) (w2 : a2.size ≤ maxLen) (w3 : a3.size ≤ maxLen) (w : World) :
    Calls Trym.prog 5 #[.string a0, .string a1, .string a2, .string a3] w fun e w' => e = .returned (.bool true) ∧ Grown w w' := by
  go_enter Trym.func5, Trym.ntmps5
  go_wp2_with fail
  refine (bytes12 _ _ _ _ w0 w1 w2 w3 _).mono ?_
  rintro x w' ⟨b, rfl, hb, rfl⟩
  cases b
  · go_wp2
    go_ret
    exact ⟨rfl, Grown.refl _⟩
  have hsum := hb rfl
  clear hb
  unfold maxLen at w0 w1 w2 w3
  cases ho : a1.toList.isEmpty
  · cases hr : a2.toList.isEmpty
    · go_wp2_with fail
      refine (op13_both _ _ _ _ (by omega) ho hr _).mono ?_
      rintro x w' ⟨rfl, hg⟩
      obtain ⟨W, hW⟩ : ∃ W : ByteArray, W = ⟨#[32]⟩ ++ a1 ++ ⟨#[32, 111, 102, 32]⟩ ++ a2 := ⟨_, rfl⟩
      rw [← hW]
      have hz : W.size = 1 + a1.size + 4 + a2.size := by rw [hW]; exact size_both a1 a2
      have hn : W.toList.isEmpty = false := by rw [← Bool.not_eq_true, empty_iff, hz]; omega
      have hl : 1 + a1.size + 4 + a2.size ≤ W.size := Nat.le_of_eq hz.symm
      have hu : W.size ≤ 1 + a1.size + 4 + a2.size := Nat.le_of_eq hz
      clear hz
      have hl0 : 0 < W.size := by omega
      have h0 : W[0]'hl0 = 32 := by subst hW; exact head_both a1 a2 hl0
      have hb : ((W.size : Int) == 1 + (a1.size : Int) + 4 + (a2.size : Int)) = true := beq_iff_eq.2 (by omega)
      have Hp : Hid (∀ i (hi : i < a1.size), W[1 + i]'(by omega) = a1[i]) := by
        subst hW; exact fun i hi => rest_both a1 a2 i hi (by omega)
      have Hq : Hid (∀ i (hi : i < (⟨#[32, 111, 102, 32]⟩ ++ a2 : ByteArray).size), W[W.size - (⟨#[32, 111, 102, 32]⟩ ++ a2 : ByteArray).size + i]'(by rw [ByteArray.size_append, size_of] at *; omega) = (⟨#[32, 111, 102, 32]⟩ ++ a2 : ByteArray)[i]) := by
        rw [ByteArray.append_assoc] at hW
        subst hW; exact fun i hi => at_suf _ _ i hi
      clear hW
      go_wp2_with fail
      refine (pre9 (W.extract 1 W.size) a1 (by rw [size_tail]; unfold maxLen; omega) (by rw [size_tail]; omega) (fun i hi => (at_tail W i (by omega)).trans (Hp.out i hi)) _).mono ?_
      rintro x w1 ⟨rfl, n, rfl⟩
      go_wp2_with fail
      refine (suf10 W _ (by unfold maxLen; omega) (by rw [ByteArray.size_append, size_of]; omega) Hq.out _).mono ?_
      rintro x w1 ⟨rfl, m, rfl⟩
      go_wp2_with fail
      go_ret
      exact ⟨rfl, gdrewN (gdrewN (gtrans ((Grown.refl _).alloc _ _) hg) n) m⟩
    · go_wp2_with fail
      refine (op13_bare _ _ _ _ (by omega) ho hr _).mono ?_
      rintro x w' ⟨rfl, hg⟩
      obtain ⟨W, hW⟩ : ∃ W : ByteArray, W = ⟨#[32]⟩ ++ a1 := ⟨_, rfl⟩
      rw [← hW]
      have hn : W.toList.isEmpty = false := by rw [← Bool.not_eq_true, empty_iff, hW, ByteArray.size_append, size_sp]; omega
      have hl : 1 + a1.size ≤ W.size := by rw [hW, ByteArray.size_append, size_sp]; omega
      have hu : W.size ≤ 1 + a1.size := by rw [hW, ByteArray.size_append, size_sp]; omega
      have hl0 : 0 < W.size := by omega
      have h0 : W[0]'hl0 = 32 := by subst hW; exact head_sp a1 hl0
      have hb : ((W.size : Int) == 1 + (a1.size : Int)) = true := beq_iff_eq.2 (by omega)
      have Hp : Hid (∀ i (hi : i < a1.size), W[1 + i]'(by omega) = a1[i]) := by
        subst hW; exact fun i hi => rest_sp a1 i hi (by omega)
      clear hW
      go_wp2_with fail
      refine (pre9 (W.extract 1 W.size) a1 (by rw [size_tail]; unfold maxLen; omega) (by rw [size_tail]; omega) (fun i hi => (at_tail W i (by omega)).trans (Hp.out i hi)) _).mono ?_
      rintro x w1 ⟨rfl, n, rfl⟩
      go_wp2_with fail
      go_ret
      exact ⟨rfl, gdrewN (gtrans ((Grown.refl _).alloc _ _) hg) n⟩
  · go_wp2_with fail
    refine (op13_none _ _ _ _ ho _).mono ?_
    rintro x w' ⟨rfl, hg⟩
    go_wp2
    go_ret
    exact ⟨rfl, gtrans ((Grown.refl _).alloc _ _) hg⟩
end Go.Proofs.Qxb6001375aMods
