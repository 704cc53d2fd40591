import Derived.Test.Qxb6600978aModsSame
import Derived.Maps.AppendAt
namespace Go.Proofs.Qxb6600978aMods
open Go.RowKit

theorem info9 : (Trym.prog.info? 9).map (fun i => (i.zero, i.size, i.bytes)) = some (some (.string ByteArray.empty), 1, 16) := by kernel_rfl

/-- A copy of n strings in a new block (from block lo on, below hi); nil where there are none. -/
def Fresh (w : World) (lo hi : Nat) (a : Option Addr) (n : Nat) (s : Nat → ByteArray) : Prop :=
  (n = 0 ∧ a = none) ∨ (0 < n ∧ ∃ g, a = some ⟨g, 0, none⟩ ∧ lo ≤ g ∧ g < hi ∧ ∀ i, i < n → w.cell? ⟨g, i, none⟩ = some (.string (s i)) ∧ (s i).size ≤ 9223372036854775807)
theorem Fresh.strs {w : World} {lo hi : Nat} {a : Option Addr} {n : Nat} {s : Nat → ByteArray} (h : Fresh w lo hi a n s) : Strs w a n s := by
  rcases h with ⟨rfl, rfl⟩ | ⟨hp, g, rfl, _, _, hc⟩
  · exact ⟨0, 0, fun h => absurd h (Nat.lt_irrefl _), fun i hi => absurd hi (Nat.not_lt_zero _)⟩
  · exact ⟨g, 0, fun _ => rfl, fun i hi => by rw [Nat.zero_add]; exact hc i hi⟩
theorem Fresh.nilOk {w : World} {lo hi : Nat} {a : Option Addr} {n : Nat} {s : Nat → ByteArray} (h : Fresh w lo hi a n s) : NilOk a n := by
  rcases h with ⟨rfl, rfl⟩ | ⟨hp, g, rfl, _⟩
  · exact .inl ⟨rfl, rfl⟩
  · exact .inr ⟨hp, _, rfl⟩
/-- It stays what it is while other blocks are written and new ones are made. -/
theorem Fresh.kept {w w' : World} {lo hi : Nat} {a : Option Addr} {n : Nat} {s : Nat → ByteArray} {row : Option Nat} (h : Fresh w lo hi a n s) (hg : w.grownBy w' row) (hr : ∀ j, row = some j → j < lo ∨ hi ≤ j) : Fresh w' lo hi a n s := by
  rcases h with h | ⟨hp, g, rfl, hl, hlt, hc⟩
  · exact .inl h
  · exact .inr ⟨hp, g, rfl, hl, hlt, fun i hi => ⟨hg.cell (hc i hi).1 (fun e => by have := hr g e.symm; omega), (hc i hi).2⟩⟩
theorem Fresh.mono {w : World} {lo lo' hi hi' : Nat} {a : Option Addr} {n : Nat} {s : Nat → ByteArray} (h : Fresh w lo hi a n s) (hl : lo' ≤ lo) (hh : hi ≤ hi') : Fresh w lo' hi' a n s := by
  rcases h with h | ⟨hp, g, rfl, hg, hg', r⟩
  · exact .inl h
  · exact .inr ⟨hp, g, rfl, Nat.le_trans hl hg, Nat.lt_of_lt_of_le hg' hh, r⟩

/-- 'append([]string(nil), xs...)'. -/
theorem run_append_copy (w : World) (ty : TypeId) (a : Option Addr) (n c : Nat) (s : Nat → ByteArray) (hn : n ≤ 1048576) (hs : Strs w a n s) :
    ∃ a' c' w', (Builtin.append_ #[22, 22] ty #[.slice none 0 0, .slice a n c]).run Trym.prog w = .ok (.slice a' n c') w' ∧ Fresh w' w.heap.size w'.heap.size a' n s ∧ w.grownBy w' none := by
  obtain ⟨i0, hi, hz0, hz1, hz2⟩ := info_parts info9
  obtain ⟨b, off, ha, hc⟩ := hs
  cases a with
  | none =>
    have h0 : n = 0 := by
      rcases Nat.eq_zero_or_pos n with h | h
      · exact h
      · cases ha h
    subst h0
    refine ⟨none, 0, w, ?_, .inl ⟨rfl, rfl⟩, ⟨rfl, rfl, rfl, Nat.le_refl _, fun _ _ _ => rfl⟩⟩
    simp [Builtin.append_, run_underlying Trym.underlying22, sizeOf, typeInfo, hi, Builtin.lenOf, Builtin.firstCells]
  | some x =>
    have hnews : ∀ (j : Nat) (u : Value), ((List.range n).map fun i => Value.string (s i))[j]? = some u → w.cell? (x.add j) = some u := by
      intro j u hj
      simp only [List.getElem?_map, Option.map_eq_some_iff] at hj
      obtain ⟨i, hi', rfl⟩ := hj
      obtain ⟨hlt, he⟩ := List.getElem?_eq_some_iff.1 hi'
      simp at hlt he
      subst he
      obtain rfl : x = ⟨b, off, none⟩ := by simpa using ha (by omega)
      rw [Go.WideShapes.add_plain]
      exact (hc j hlt).1
    obtain ⟨v', w', hrun, hown, hgr, hnil⟩ := run_append_own (P := Trym.prog) w w.heap.size 22 ty 9 i0 (.string ByteArray.empty) 1 16 Trym.underlying22 hi hz0 hz1 hz2 rfl (by decide) (.slice none 0 0) 0 [] (World.ownsRow_nil _ _ _ _) x n c
      ((List.range n).map fun i => Value.string (s i)) (by simp) hnews (by intro u hu; obtain ⟨_, _, rfl⟩ := List.mem_map.1 hu; rfl) (by unfold maxLen; omega) (by omega) (Nat.le_refl _)
    rw [Nat.zero_add, List.nil_append] at hown
    rcases hown.2 with ⟨hv, h0⟩ | ⟨g, cap, cur, hv, hb, hh, _, _, _, htake⟩
    · subst h0
      exact ⟨none, 0, w', by rw [hrun, hv], .inl ⟨rfl, rfl⟩, hgr⟩
    · rcases Nat.eq_zero_or_pos n with h0 | hp
      · subst h0
        rw [hnil.2 ⟨rfl, rfl⟩] at hv
        cases hv
      · refine ⟨some ⟨g, 0, none⟩, cap, w', by rw [hrun, hv], .inr ⟨hp, g, rfl, hb, (Array.getElem?_eq_some_iff.1 hh).1, fun i hi' => ⟨?_, (hc i hi').2⟩⟩, hgr⟩
        have := hown.cells (g := g) (by rw [hv]; rfl) i (.string (s i)) (by simp [hi'])
        rw [Go.WideShapes.add_plain, Nat.zero_add] at this
        exact this

/-- .. at the operation, for the walk: 'intro a' c' w' hf hg'. -/
theorem wpList_append_copy (w : World) {ops : Array Oper} {rest : List Oper} {o : Oper} {a : Act} {Q : Exit → Act → World → Prop} (hgd : o.guard = none) (x : Operand)
    (ho : o.op = .call { callee := .builtin .append, args := #[.const (.slice none 0 0), x], argTypes := #[22, 22] })
    (a0 : Option Addr) (n c : Nat) (s : Nat → ByteArray) (hx : a.eval x = .slice a0 n c) (hn : n ≤ 1048576) (hs : Strs w a0 n s)
    (h : ∀ a' c' w', Fresh w' w.heap.size w'.heap.size a' n s → w.grownBy w' none → wpList Trym.prog ops Q rest (a.put o.dst (.slice a' n c')) w') : wpList Trym.prog ops Q (o :: rest) a w := by
  refine wpList_plain hgd fun K hK => ?_
  obtain ⟨a', c', w', hrun, h1, h2⟩ := run_append_copy w o.type a0 n c s hn hs
  have he : a.eval (.const (.slice none 0 0)) = .slice none 0 0 := rfl
  unfold Oper.wp execOp
  simp only [ho, resolve, invoke, builtin, Sem.run_bind, Sem.run_pure, Result.andThen_ok, List.map_toArray, List.map_cons, List.map_nil, he, hx, hrun]
  exact hK _ _ (h a' c' w' h1 h2)
end Go.Proofs.Qxb6600978aMods
