import Derived.Test.Qxb6600978aModsSizes
import Derived.Maps.RangeWalk
import Derived.Maps.Ext
namespace Go.Proofs.Qxb6600978aMods
open Go.RowKit Go.Maps
open Go.WideMaps (keyOf_string_mk string_of_keyOf)

theorem law9 : Keyed Trym.prog 9 := string_keyed Trym.underlying9
theorem zero22 (w : World) : (zeroValue 22).run Trym.prog w = .ok (.slice none 0 0) w := by kernel_rfl
theorem zero9 (w : World) : (zeroValue 9).run Trym.prog w = .ok (.string ByteArray.empty) w := by kernel_rfl

/-- HOW AN ELEMENT READS, for these proofs: as itself. A slice .. -/
def slcE : Value → Option (DataW Value × List MemPlace)
  | .slice a n c => some (.held (.slice a n c), [])
  | _ => none
/-- .. and a string. -/
def strE : Value → Option (DataW Value × List MemPlace)
  | .string s => some (.held (.string s), [])
  | _ => none
theorem slcE_inv {v : Value} {y : DataW Value × List MemPlace} (h : slcE v = some y) : ∃ x : Option Addr × Nat × Nat, v = .slice x.1 x.2.1 x.2.2 ∧ y = (.held (.slice x.1 x.2.1 x.2.2), []) := by
  cases v <;> simp [slcE] at h
  exact ⟨(_, _, _), rfl, h.symm⟩
theorem strE_inv {v : Value} {y : DataW Value × List MemPlace} (h : strE v = some y) : ∃ s, v = .string s ∧ y = (.held (.string s), []) := by
  cases v <;> simp [strE] at h
  exact ⟨_, rfl, h.symm⟩

/-- What a string reads as, as a key. -/
def key (s : ByteArray) : Lit := .string s.data.toList
theorem key_of {s : ByteArray} (h : s.size ≤ 9223372036854775807) : keyOf Trym.prog 9 (.string s) = some (key s) := keyOf_string_mk Trym.underlying9 h

/-- THE MAP AFTER k ROUNDS of 'm[keys[i]] = vals[i]'. -/
def fill (ks : Nat → ByteArray) (vs : Nat → Value) : Nat → DataW Value
  | 0 => .map []
  | k + 1 => (fill ks vs k).put (key (ks k)) (.held (vs k))

set_option maxHeartbeats 400000 in
theorem limitsMap9 (a1 : Option Addr) (n c1 : Nat) (ks : Nat → ByteArray) (a2 : Option Addr) (n2 c2 : Nat) (A : Nat → Option Addr) (L C : Nat → Nat) (S : Nat → Nat → ByteArray) (hn : n ≤ 1048576) (hn2 : n ≤ n2) (hn3 : n2 ≤ 9223372036854775807) (w : World)
    (h1 : Strs w a1 n ks) (h2 : Grid w a2 n2 A L C S) :
    Calls Trym.prog 9 #[.slice a1 n c1, .slice a2 n2 c2] w fun e w' => e = .returned (.map (some w.heap.size)) ∧ w'.ownsMap Trym.prog 9 slcE w.heap.size n (fill ks (fun i => .slice (A i) (L i) (C i)) n) ∧ Below w.heap.size w w' := by
  obtain ⟨b1, off1, ha1, hc1⟩ := h1
  obtain ⟨b2, off2, ha2, hc2⟩ := h2
  have Ha1 : Hid (0 < n → a1 = some ⟨b1, off1, none⟩) := ha1
  have Hc1 : Hid (∀ i, i < n → w.cell? ⟨b1, off1 + i, none⟩ = some (.string (ks i)) ∧ (ks i).size ≤ 9223372036854775807) := hc1
  have Ha2 : Hid (0 < n2 → a2 = some ⟨b2, off2, none⟩) := ha2
  have Hc2 : Hid (∀ i, i < n2 → w.cell? ⟨b2, off2 + i, none⟩ = some (.slice (A i) (L i) (C i)) ∧ L i ≤ 9223372036854775807 ∧ Strs w (A i) (L i) (S i)) := hc2
  clear ha1 hc1 ha2 hc2
  have hmm := @run_makeMap Trym.prog
  go_enter Trym.func9, Trym.ntmps9
  go_wp2
  clear hmm
  go_loopw [6] (fun i wr => ∃ k : Nat, k ≤ n ∧ i = .int .i64 k ∧ wr.ownsMap Trym.prog 9 slcE w.heap.size k (fill ks (fun i => .slice (A i) (L i) (C i)) k) ∧ Below w.heap.size w wr) (fun i _ => n - (intOf i).toNat)
  case atStart => exact ⟨0, Nat.zero_le _, rfl, World.ownsMap_made _ _ _ _, (Below.refl _ _).alloc (Nat.le_refl _) _⟩
  case round =>
    obtain ⟨k, hk, rfl, hown, hnx⟩ := hrel
    by_cases hlt : k < n
    · obtain rfl := Ha1.out (by omega)
      obtain rfl := Ha2.out (by omega)
      obtain ⟨g1, g2⟩ := Hc1.out k hlt
      obtain ⟨g3, g4, _⟩ := Hc2.out k (by omega)
      have hk2 : (k : Int) < (n2 : Int) := by omega
      have e1 : wr.cell? ⟨b1, off1 + k, none⟩ = some (.string (ks k)) := (hnx.cell (p := ⟨b1, off1 + k, none⟩) (World.block_lt_of_cell? _ _ g1)).trans g1
      have e2 : wr.cell? ⟨b2, off2 + k, none⟩ = some (.slice (A k) (L k) (C k)) := (hnx.cell (p := ⟨b2, off2 + k, none⟩) (World.block_lt_of_cell? _ _ g3)).trans g3
      obtain ⟨w2, hrun, hown2, hgr⟩ := World.ownsMap.update (w := wr.drew) hown.drew law9 Trym.underlying27 (show k < maxLen by unfold maxLen; omega) (key_of g2) (show slcE (.slice (A k) (L k) (C k)) = some (.held (.slice (A k) (L k) (C k)), []) from rfl)
      have Hown2 : Hid (w2.ownsMap Trym.prog 9 slcE w.heap.size (k + 1) (fill ks (fun i => .slice (A i) (L i) (C i)) (k + 1))) := hown2
      have Hb : Hid (Below w.heap.size w w2) := hnx.drew.grown hgr hnx.size (fun j hj => by cases hj; exact Nat.le_refl _)
      clear hown hown2 hgr g1 g3
      generalize ks k = K at *
      generalize A k = Ak at *
      generalize L k = Lk at *
      generalize C k = Ck at *
      go_wp2
      go_region
      all_goals
        go_wp2
        go_roundw
        case rel => exact ⟨k + 1, by omega, by go_num, Hown2.out, Hb.out⟩
        case measure => simp [intOf]; omega
    · go_wp2
      go_ret
      obtain rfl : k = n := by omega
      exact ⟨rfl, hown, hnx⟩

set_option maxHeartbeats 400000 in
theorem valuesMap10 (a1 : Option Addr) (n c1 : Nat) (ks : Nat → ByteArray) (a2 : Option Addr) (n2 c2 : Nat) (vs : Nat → ByteArray) (hn : n ≤ 1048576) (hn2 : n ≤ n2) (hn3 : n2 ≤ 9223372036854775807) (w : World)
    (h1 : Strs w a1 n ks) (h2 : Strs w a2 n2 vs) :
    Calls Trym.prog 10 #[.slice a1 n c1, .slice a2 n2 c2] w fun e w' => e = .returned (.map (some w.heap.size)) ∧ w'.ownsMap Trym.prog 9 strE w.heap.size n (fill ks (fun i => .string (vs i)) n) ∧ Below w.heap.size w w' := by
  obtain ⟨b1, off1, ha1, hc1⟩ := h1
  obtain ⟨b2, off2, ha2, hc2⟩ := h2
  have Ha1 : Hid (0 < n → a1 = some ⟨b1, off1, none⟩) := ha1
  have Hc1 : Hid (∀ i, i < n → w.cell? ⟨b1, off1 + i, none⟩ = some (.string (ks i)) ∧ (ks i).size ≤ 9223372036854775807) := hc1
  have Ha2 : Hid (0 < n2 → a2 = some ⟨b2, off2, none⟩) := ha2
  have Hc2 : Hid (∀ i, i < n2 → w.cell? ⟨b2, off2 + i, none⟩ = some (.string (vs i)) ∧ (vs i).size ≤ 9223372036854775807) := hc2
  clear ha1 hc1 ha2 hc2
  have hmm := @run_makeMap Trym.prog
  go_enter Trym.func10, Trym.ntmps10
  go_wp2
  clear hmm
  go_loopw [6] (fun i wr => ∃ k : Nat, k ≤ n ∧ i = .int .i64 k ∧ wr.ownsMap Trym.prog 9 strE w.heap.size k (fill ks (fun i => .string (vs i)) k) ∧ Below w.heap.size w wr) (fun i _ => n - (intOf i).toNat)
  case atStart => exact ⟨0, Nat.zero_le _, rfl, World.ownsMap_made _ _ _ _, (Below.refl _ _).alloc (Nat.le_refl _) _⟩
  case round =>
    obtain ⟨k, hk, rfl, hown, hnx⟩ := hrel
    by_cases hlt : k < n
    · obtain rfl := Ha1.out (by omega)
      obtain rfl := Ha2.out (by omega)
      obtain ⟨g1, g2⟩ := Hc1.out k hlt
      obtain ⟨g3, g4⟩ := Hc2.out k (by omega)
      have hk2 : (k : Int) < (n2 : Int) := by omega
      have e1 : wr.cell? ⟨b1, off1 + k, none⟩ = some (.string (ks k)) := (hnx.cell (p := ⟨b1, off1 + k, none⟩) (World.block_lt_of_cell? _ _ g1)).trans g1
      have e2 : wr.cell? ⟨b2, off2 + k, none⟩ = some (.string (vs k)) := (hnx.cell (p := ⟨b2, off2 + k, none⟩) (World.block_lt_of_cell? _ _ g3)).trans g3
      obtain ⟨w2, hrun, hown2, hgr⟩ := World.ownsMap.update (w := wr.drew) hown.drew law9 Trym.underlying29 (show k < maxLen by unfold maxLen; omega) (key_of g2) (show strE (.string (vs k)) = some (.held (.string (vs k)), []) from rfl)
      have Hown2 : Hid (w2.ownsMap Trym.prog 9 strE w.heap.size (k + 1) (fill ks (fun i => .string (vs i)) (k + 1))) := hown2
      have Hb : Hid (Below w.heap.size w w2) := hnx.drew.grown hgr hnx.size (fun j hj => by cases hj; exact Nat.le_refl _)
      clear hown hown2 hgr g1 g3
      generalize ks k = K at *
      generalize vs k = V at *
      go_wp2
      go_region
      all_goals
        go_wp2
        go_roundw
        case rel => exact ⟨k + 1, by omega, by go_num, Hown2.out, Hb.out⟩
        case measure => simp [intOf]; omega
    · go_wp2
      go_ret
      obtain rfl : k = n := by omega
      exact ⟨rfl, hown, hnx⟩

set_option maxHeartbeats 400000 in
theorem attrMap12 (a1 : Option Addr) (n c1 : Nat) (ks : Nat → ByteArray) (hn : n ≤ 1048576) (w : World) (h1 : Strs w a1 n ks) :
    Calls Trym.prog 12 #[.slice a1 n c1] w fun e w' => e = .returned (.map (some w.heap.size)) ∧ w'.ownsMap Trym.prog 9 strE w.heap.size n (fill ks (fun i => .string (ks i)) n) ∧ Below w.heap.size w w' := by
  obtain ⟨b1, off1, ha1, hc1⟩ := h1
  have Ha1 : Hid (0 < n → a1 = some ⟨b1, off1, none⟩) := ha1
  have Hc1 : Hid (∀ i, i < n → w.cell? ⟨b1, off1 + i, none⟩ = some (.string (ks i)) ∧ (ks i).size ≤ 9223372036854775807) := hc1
  clear ha1 hc1
  have hmm := @run_makeMap Trym.prog
  go_enter Trym.func12, Trym.ntmps12
  go_wp2
  clear hmm
  go_loopw [4] (fun i wr => ∃ k : Nat, k ≤ n ∧ i = .int .i64 k ∧ wr.ownsMap Trym.prog 9 strE w.heap.size k (fill ks (fun i => .string (ks i)) k) ∧ Below w.heap.size w wr) (fun i _ => n - (intOf i).toNat)
  case atStart => exact ⟨0, Nat.zero_le _, rfl, World.ownsMap_made _ _ _ _, (Below.refl _ _).alloc (Nat.le_refl _) _⟩
  case round =>
    obtain ⟨k, hk, rfl, hown, hnx⟩ := hrel
    by_cases hlt : k < n
    · obtain rfl := Ha1.out (by omega)
      obtain ⟨g1, g2⟩ := Hc1.out k hlt
      have e1 : wr.cell? ⟨b1, off1 + k, none⟩ = some (.string (ks k)) := (hnx.cell (p := ⟨b1, off1 + k, none⟩) (World.block_lt_of_cell? _ _ g1)).trans g1
      obtain ⟨w2, hrun, hown2, hgr⟩ := World.ownsMap.update (w := wr.drew) hown.drew law9 Trym.underlying29 (show k < maxLen by unfold maxLen; omega) (key_of g2) (show strE (.string (ks k)) = some (.held (.string (ks k)), []) from rfl)
      have Hown2 : Hid (w2.ownsMap Trym.prog 9 strE w.heap.size (k + 1) (fill ks (fun i => .string (ks i)) (k + 1))) := hown2
      have Hb : Hid (Below w.heap.size w w2) := hnx.drew.grown hgr hnx.size (fun j hj => by cases hj; exact Nat.le_refl _)
      clear hown hown2 hgr g1
      generalize ks k = K at *
      go_wp2
      go_region
      all_goals
        go_wp2
        go_roundw
        case rel => exact ⟨k + 1, by omega, by go_num, Hown2.out, Hb.out⟩
        case measure => simp [intOf]; omega
    · go_wp2
      go_ret
      obtain rfl : k = n := by omega
      exact ⟨rfl, hown, hnx⟩
end Go.Proofs.Qxb6600978aMods
