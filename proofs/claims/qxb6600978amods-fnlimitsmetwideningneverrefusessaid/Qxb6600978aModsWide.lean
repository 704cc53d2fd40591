import Derived.Test.Qxb6600978aModsMet
namespace Go.Proofs.Qxb6600978aMods
open Go.RowKit Go.Maps

/-! ### append OF STRINGS TO A SLICE THAT THE CALL OWNS -/
def strL (s : Nat → ByteArray) (n : Nat) : List Value := (List.range n).map fun i => .string (s i)

theorem run_append_strs (w : World) (ty : TypeId) (base : Nat) (p0 : Option Addr) (n c0 : Nat) (xs : List Value) (hown : w.ownsRow base 9 1 (.slice p0 n c0) n xs) (a : Option Addr) (l c : Nat) (s : Nat → ByteArray) (hst : Strs w a l s) (hnl : n + l ≤ 4194304) (hbase : base ≤ w.heap.size) :
    ∃ p' c' w', (Builtin.append_ #[22, 22] ty #[.slice p0 n c0, .slice a l c]).run Trym.prog w = .ok (.slice p' (n + l) c') w' ∧ w'.ownsRow base 9 1 (.slice p' (n + l) c') (n + l) (xs ++ strL s l) ∧ w.grownBy w' (Value.ownBlock (.slice p0 n c0)) := by
  obtain ⟨i0, hi, hz0, hz1, hz2⟩ := info_parts info9
  obtain ⟨b, off, ha, hc⟩ := hst
  cases a with
  | none =>
    have h0 : l = 0 := by
      rcases Nat.eq_zero_or_pos l with h | h
      · exact h
      · cases ha h
    subst h0
    have hown' := hown
    refine ⟨p0, c0, w, ?_, by simpa [strL] using hown, ⟨rfl, rfl, rfl, Nat.le_refl _, fun _ _ _ => rfl⟩⟩
    rcases hown'.2 with ⟨hv, hn⟩ | ⟨g, cap, cur, hv, _, _, hle, _⟩
    · simp only [Value.slice.injEq] at hv
      obtain ⟨rfl, _, rfl⟩ := hv
      subst hn
      simp [Builtin.append_, run_underlying Trym.underlying22, sizeOf, typeInfo, hi, Builtin.lenOf, Builtin.firstCells]
    · simp only [Value.slice.injEq] at hv
      obtain ⟨rfl, _, rfl⟩ := hv
      simp [Builtin.append_, run_underlying Trym.underlying22, sizeOf, typeInfo, hi, Builtin.lenOf, Builtin.firstCells, hle, storeCells]
  | some x =>
    have hnews : ∀ (j : Nat) (u : Value), (strL s l)[j]? = some u → w.cell? (x.add j) = some u := by
      intro j u hj
      simp only [strL, List.getElem?_map, Option.map_eq_some_iff] at hj
      obtain ⟨i, hi', rfl⟩ := hj
      obtain ⟨hlt, he⟩ := List.getElem?_eq_some_iff.1 hi'
      simp at hlt he
      subst he
      obtain rfl : x = ⟨b, off, none⟩ := by simpa using ha (by omega)
      rw [Go.WideShapes.add_plain]
      exact (hc j hlt).1
    obtain ⟨v', w', hrun, hown', hgr, hnil⟩ := run_append_own (P := Trym.prog) w base 22 ty 9 i0 (.string ByteArray.empty) 1 16 Trym.underlying22 hi hz0 hz1 hz2 rfl (by decide) (.slice p0 n c0) n xs hown x l c
      (strL s l) (by simp [strL]) hnews (by intro u hu; obtain ⟨_, _, rfl⟩ := List.mem_map.1 hu; rfl) (by unfold maxLen; omega) (by omega) hbase
    rcases hown'.2 with ⟨hv, h0⟩ | ⟨g, cap, cur, hv, _⟩
    · refine ⟨none, 0, w', by rw [hrun, hv, h0], ?_, hgr⟩
      rw [hv] at hown'
      rw [h0] at hown' ⊢
      exact hown'
    · exact ⟨_, cap, w', by rw [hrun, hv], hv ▸ hown', hgr⟩

/-- .. at the operation, for the walk: 'intro p' c' w' hown hgrow'. -/
theorem wpList_append_strs (w : World) {ops : Array Oper} {rest : List Oper} {o : Oper} {a : Act} {Q : Exit → Act → World → Prop} (hgd : o.guard = none) (s x : Operand)
    (ho : o.op = .call { callee := .builtin .append, args := #[s, x], argTypes := #[22, 22] })
    (base : Nat) (p0 : Option Addr) (n c0 : Nat) (xs : List Value) (hs : a.eval s = .slice p0 n c0) (hown : w.ownsRow base 9 1 (.slice p0 n c0) n xs) (a0 : Option Addr) (l c : Nat) (ss : Nat → ByteArray) (hx : a.eval x = .slice a0 l c) (hst : Strs w a0 l ss) (hnl : n + l ≤ 4194304) (hbase : base ≤ w.heap.size)
    (h : ∀ p' c' w', w'.ownsRow base 9 1 (.slice p' (n + l) c') (n + l) (xs ++ strL ss l) → w.grownBy w' (Value.ownBlock (.slice p0 n c0)) → wpList Trym.prog ops Q rest (a.put o.dst (.slice p' (n + l) c')) w') : wpList Trym.prog ops Q (o :: rest) a w := by
  refine wpList_plain hgd fun K hK => ?_
  obtain ⟨p', c', w', hrun, h1, h2⟩ := run_append_strs w o.type base p0 n c0 xs hown a0 l c ss hst hnl hbase
  unfold Oper.wp execOp
  simp only [ho, resolve, invoke, builtin, Sem.run_bind, Sem.run_pure, Result.andThen_ok, List.map_toArray, List.map_cons, List.map_nil, hs, hx, hrun]
  exact hK _ _ (h p' c' w' h1 h2)

/-- The strings of s, and one more. -/
def more (s : Nat → ByteArray) (l : Nat) (v : ByteArray) (i : Nat) : ByteArray := if i < l then s i else v
/-- What an owned row of strings is good for. -/
theorem strs_of_row {w : World} {base : Nat} {p : Option Addr} {l c : Nat} {s : Nat → ByteArray} {v : ByteArray} (h : w.ownsRow base 9 1 (.slice p (l + 1) c) (l + 1) (strL s l ++ [.string v])) (hs : ∀ i, i < l → (s i).size ≤ 9223372036854775807) (hv : v.size ≤ 9223372036854775807) : Strs w p (l + 1) (more s l v) := by
  rcases h.2 with ⟨_, h0⟩ | ⟨g, cap, cur, hvv, _⟩
  · omega
  · simp only [Value.slice.injEq] at hvv
    obtain ⟨rfl, _, _⟩ := hvv
    refine ⟨g, 0, fun _ => rfl, fun i hi => ⟨?_, ?_⟩⟩
    · have := h.cells (g := g) rfl i (.string (more s l v i)) (by
        unfold more
        by_cases hlt : i < l
        · rw [List.getElem?_append_left (by simpa [strL] using hlt)]
          simp [strL, hlt]
        · obtain rfl : i = l := by omega
          rw [List.getElem?_append_right (by simp [strL])]
          simp [strL])
      rw [Go.WideShapes.add_plain] at this
      exact this
    · unfold more
      split
      · exact hs i (by omega)
      · exact hv

/-! ### THE LIMITS AS READ -/
def LimsD (w : World) (D : DataW Value) (Lim : Lit → Option (Nat × (Nat → ByteArray))) : Prop :=
  ∀ kl, (Lim kl = none → has D kl = false) ∧ ∀ n s, Lim kl = some (n, s) → has D kl = true ∧ n ≤ 2097152 ∧ ∃ a c, (∀ z, D.atKey kl z = .held (.slice a n c)) ∧ Strs w a n s
theorem lims_some {w : World} {B N : Nat} {D : DataW Value} {Lim : Lit → Option (Nat × (Nat → ByteArray))} (ho : w.ownsMap Trym.prog 9 slcE B N D) (h : LimsD w D Lim) : Lims w (some B) Lim := .inr ⟨B, N, D, rfl, ho, h⟩
def limPut (k : ByteArray) (q : Nat × (Nat → ByteArray)) (Lim : Lit → Option (Nat × (Nat → ByteArray))) (kl : Lit) : Option (Nat × (Nat → ByteArray)) := if kl.sameKey (key k) then some q else Lim kl
def limDel (k : ByteArray) (Lim : Lit → Option (Nat × (Nat → ByteArray))) (kl : Lit) : Option (Nat × (Nat → ByteArray)) := if kl.sameKey (key k) then none else Lim kl
theorem LimsD.below {w w' : World} {B : Nat} {D : DataW Value} {Lim : Lit → Option (Nat × (Nat → ByteArray))} (h : LimsD w D Lim) (hb : Below B w w') (hB : w.heap.size ≤ B) : LimsD w' D Lim := fun kl => ⟨(h kl).1, fun n s he => by
  obtain ⟨h1, h2, a, c, h3, h4⟩ := (h kl).2 n s he
  exact ⟨h1, h2, a, c, h3, h4.below hb hB⟩⟩
theorem limPut_same (k : ByteArray) (q : Nat × (Nat → ByteArray)) (Lim : Lit → Option (Nat × (Nat → ByteArray))) : limPut k q Lim (key k) = some q := by
  unfold limPut
  rw [WideAt.sameKey_self (key_lit k)]; rfl
theorem limPut_other {k : ByteArray} (q : Nat × (Nat → ByteArray)) (Lim : Lit → Option (Nat × (Nat → ByteArray))) {kl : Lit} (h : kl ≠ key k) : limPut k q Lim kl = Lim kl := by
  unfold limPut
  rw [sameKey_ne h]; rfl
theorem limDel_same (k : ByteArray) (Lim : Lit → Option (Nat × (Nat → ByteArray))) : limDel k Lim (key k) = none := by
  unfold limDel
  rw [WideAt.sameKey_self (key_lit k)]; rfl
theorem limDel_other {k : ByteArray} (Lim : Lit → Option (Nat × (Nat → ByteArray))) {kl : Lit} (h : kl ≠ key k) : limDel k Lim kl = Lim kl := by
  unfold limDel
  rw [sameKey_ne h]; rfl
theorem LimsD.put {w : World} {D : DataW Value} {Lim : Lit → Option (Nat × (Nat → ByteArray))} (h : LimsD w D Lim) (hm : IsMap D) (k : ByteArray) {a : Option Addr} {n c : Nat} {s : Nat → ByteArray} (hn : n ≤ 2097152) (hst : Strs w a n s) :
    LimsD w (D.put (key k) (.held (.slice a n c))) (limPut k (n, s) Lim) := fun kl => by
  by_cases e : kl = key k
  · subst e
    rw [limPut_same]
    refine ⟨fun h => (by cases h), fun n' s' he => ?_⟩
    simp only [Option.some.injEq, Prod.mk.injEq] at he
    obtain ⟨rfl, rfl⟩ := he
    exact ⟨has_put_same hm (key_lit k) _, hn, a, c, fun z => atKey_put_same hm (key_lit k) _ z, hst⟩
  · rw [limPut_other _ _ e, has_put_other e]
    refine ⟨(h kl).1, fun n' s' he => ?_⟩
    obtain ⟨h1, h2, a', c', h3, h4⟩ := (h kl).2 n' s' he
    exact ⟨h1, h2, a', c', fun z => (atKey_put_other e _ z).trans (h3 z), h4⟩
theorem LimsD.del {w : World} {D : DataW Value} {Lim : Lit → Option (Nat × (Nat → ByteArray))} (h : LimsD w D Lim) (k : ByteArray) : LimsD w (D.del (key k)) (limDel k Lim) := fun kl => by
  by_cases e : kl = key k
  · subst e
    rw [limDel_same]
    exact ⟨fun _ => has_del_same, fun n' s' he => by cases he⟩
  · rw [limDel_other _ e, has_del_other e]
    refine ⟨(h kl).1, fun n' s' he => ?_⟩
    obtain ⟨h1, h2, a', c', h3, h4⟩ := (h kl).2 n' s' he
    exact ⟨h1, h2, a', c', fun z => (atKey_del_other e z).trans (h3 z), h4⟩

/-- The limits after k rounds of zzLimitsMap. -/
def limF (ks : Nat → ByteArray) (L : Nat → Nat) (S : Nat → Nat → ByteArray) : Nat → Lit → Option (Nat × (Nat → ByteArray))
  | 0 => fun _ => none
  | k + 1 => limPut (ks k) (L k, S k) (limF ks L S k)
theorem limsD_fill {w : World} (ks : Nat → ByteArray) (A : Nat → Option Addr) (L C : Nat → Nat) (S : Nat → Nat → ByteArray) : ∀ n, (∀ i, i < n → L i ≤ 2097152 ∧ Strs w (A i) (L i) (S i)) → LimsD w (fill ks (fun i => .slice (A i) (L i) (C i)) n) (limF ks L S n)
  | 0, _ => fun kl => ⟨fun _ => rfl, fun n s he => by cases he⟩
  | n + 1, h => (limsD_fill ks A L C S n (fun i hi => h i (by omega))).put (fill_isMap _ _ n) (ks n) (h n (Nat.lt_succ_self _)).1 (h n (Nat.lt_succ_self _)).2

/-! ### THE PLAIN LAW: widening a limit, or dropping it, refuses nothing -/
theorem con_more {s : Nat → ByteArray} {l : Nat} {v x : ByteArray} (h : conB s l v = true) : conB (more s l x) (l + 1) v = true := by
  obtain ⟨k, hk, he⟩ := con_inv h
  refine con_yes k (by omega) ?_
  unfold more
  rw [if_pos hk]
  exact he
theorem ok_wider {DV : DataW Value} {Lim : Lit → Option (Nat × (Nat → ByteArray))} {k x : ByteArray} {l : Nat} {s : Nat → ByteArray} (hk : Lim (key k) = some (l, s)) {kl : Lit} (h : OkAt DV Lim kl) : OkAt DV (limPut k (l + 1, more s l x) Lim) kl := fun n s' he => by
  by_cases e : kl = key k
  · subst e
    rw [limPut_same] at he
    simp only [Option.some.injEq, Prod.mk.injEq] at he
    obtain ⟨rfl, rfl⟩ := he
    obtain ⟨v, h1, h2, h3⟩ := h l s hk
    exact ⟨v, h1, h2, con_more h3⟩
  · rw [limPut_other _ _ e] at he
    exact h n s' he
theorem ok_fewer {DV : DataW Value} {Lim : Lit → Option (Nat × (Nat → ByteArray))} {k : ByteArray} {kl : Lit} (h : OkAt DV Lim kl) : OkAt DV (limDel k Lim) kl := fun n s' he => by
  by_cases e : kl = key k
  · subst e
    rw [limDel_same] at he
    cases he
  · rw [limDel_other _ e] at he
    exact h n s' he
theorem ok_none {DV : DataW Value} {kl : Lit} : OkAt DV (fun _ => none) kl := fun n s he => by cases he
end Go.Proofs.Qxb6600978aMods
