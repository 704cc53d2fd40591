import Derived.Test.Qxb6600978aModsMaps
namespace Go.Proofs.Qxb6600978aMods
open Go.RowKit Go.Maps
open Go.WideMaps (keyOf_string_mk string_of_keyOf)

section
variable (w : World) {ops : Array Oper} {rest : List Oper} {o : Oper} {a : Act} {Q : Exit → Act → World → Prop}

/-- THE RANGE's STEP over a map[string][]string. -/
theorem next_slc (hg : o.guard = none) (it : Operand) (hop : o.op = Op.next it false) (b r n : Nat) (D : DataW Value) (left : Lit → Bool) (cnt : Nat)
    (hit : a.eval it = .pointer (some ⟨r, 0, none⟩)) (h : w.ranges Trym.prog 9 slcE b r n D left cnt)
    (hDone : cnt = 0 → (∀ kl, left kl = false) → wpList Trym.prog ops Q rest (a.put o.dst (.tuple #[.bool false])) w)
    (hMore : ∀ (k : ByteArray) (p : Option Addr) (l c : Nat) (w' : World) (cnt' : Nat), k.size ≤ 9223372036854775807 → left (key k) = true → (∀ zd, D.atKey (key k) zd = .held (.slice p l c)) → w'.ranges Trym.prog 9 slcE b r n D (fun z => left z && !z.sameKey (key k)) cnt' → cnt' < cnt →
      w.grownBy w' (some r) → w'.heap.size = w.heap.size → (Instr.entry (.pointer (some ⟨r, 0, none⟩))).run Trym.prog w' = .ok (.tuple #[.string k, .slice p l c]) w' → wpList Trym.prog ops Q rest (a.put o.dst (.tuple #[.bool true, .string k, .slice p l c])) w') :
    wpList Trym.prog ops Q (o :: rest) a w :=
  wpList_next_ranges w hg it hop 9 law9 slcE Value.string (fun x : Option Addr × Nat × Nat => Value.slice x.1 x.2.1 x.2.2)
    (fun k kl hk => by obtain ⟨s, rfl, _⟩ := string_of_keyOf Trym.underlying9 hk; exact ⟨s, rfl⟩) (fun v y hv => by obtain ⟨x, rfl, _⟩ := slcE_inv hv; exact ⟨x, rfl⟩)
    b r n D left cnt hit h hDone (fun k x kl y w' cnt' hkey hlk hv hat hrg hlt hgr hsz hen => by
      obtain ⟨s, es, rfl, hsz'⟩ := string_of_keyOf Trym.underlying9 hkey
      cases es
      obtain ⟨p, l, c⟩ := x
      obtain rfl : y = (.held (.slice p l c), []) := by simpa [slcE] using hv.symm
      exact hMore k p l c w' cnt' hsz' hlk hat hrg hlt hgr hsz hen)

/-- THE RANGE's STEP over a map[string]string. -/
theorem next_str (hg : o.guard = none) (it : Operand) (hop : o.op = Op.next it false) (b r n : Nat) (D : DataW Value) (left : Lit → Bool) (cnt : Nat)
    (hit : a.eval it = .pointer (some ⟨r, 0, none⟩)) (h : w.ranges Trym.prog 9 strE b r n D left cnt)
    (hDone : cnt = 0 → (∀ kl, left kl = false) → wpList Trym.prog ops Q rest (a.put o.dst (.tuple #[.bool false])) w)
    (hMore : ∀ (k v : ByteArray) (w' : World) (cnt' : Nat), k.size ≤ 9223372036854775807 → left (key k) = true → has D (key k) = true → w'.ranges Trym.prog 9 strE b r n D (fun z => left z && !z.sameKey (key k)) cnt' → cnt' < cnt →
      w.grownBy w' (some r) → w'.heap.size = w.heap.size → (Instr.entry (.pointer (some ⟨r, 0, none⟩))).run Trym.prog w' = .ok (.tuple #[.string k, .string v]) w' → wpList Trym.prog ops Q rest (a.put o.dst (.tuple #[.bool true, .string k, .string v])) w') :
    wpList Trym.prog ops Q (o :: rest) a w :=
  wpList_next_ranges w hg it hop 9 law9 strE Value.string Value.string
    (fun k kl hk => by obtain ⟨s, rfl, _⟩ := string_of_keyOf Trym.underlying9 hk; exact ⟨s, rfl⟩) (fun v y hv => by obtain ⟨s, rfl, _⟩ := strE_inv hv; exact ⟨s, rfl⟩)
    b r n D left cnt hit h hDone (fun k x kl y w' cnt' hkey hlk hv hat hrg hlt hgr hsz hen => by
      obtain ⟨s, es, rfl, hsz'⟩ := string_of_keyOf Trym.underlying9 hkey
      cases es
      exact hMore k x w' cnt' hsz' hlk (has_true_of_atKey hat) hrg hlt hgr hsz hen)
end

/-- 'v, ok := m[k]' and 'm[k]' over a map of slices: the value is what the datum holds. -/
theorem look_slc {w : World} {b n : Nat} {D : DataW Value} (h : w.ownsMap Trym.prog 9 slcE b n D) {k : ByteArray} (hk : k.size ≤ 9223372036854775807) {p : Option Addr} {l c : Nat} (hat : D.atKey (key k) (.held (.slice none 0 0)) = .held (.slice p l c)) :
    (Instr.lookup 27 (.map (some b)) (.string k) true).run Trym.prog w = .ok (.tuple #[.slice p l c, .bool (Maps.has D (key k))]) w ∧ (Instr.lookup 27 (.map (some b)) (.string k) false).run Trym.prog w = .ok (.slice p l c) w := by
  constructor
  · obtain ⟨v, ps, hr, hv⟩ := h.look_ok law9 Trym.underlying27 (zero22 w) (zd := .held (.slice none 0 0)) (zp := []) rfl (key_of hk)
    rw [hat] at hv
    obtain ⟨x, rfl, hx⟩ := slcE_inv hv
    simp only [Prod.mk.injEq, DataW.held.injEq] at hx
    rw [hr, ← hx.1]
  · obtain ⟨v, ps, hr, hv⟩ := h.lookup law9 Trym.underlying27 (zero22 w) (zd := .held (.slice none 0 0)) (zp := []) rfl (key_of hk)
    rw [hat] at hv
    obtain ⟨x, rfl, hx⟩ := slcE_inv hv
    simp only [Prod.mk.injEq, DataW.held.injEq] at hx
    rw [hr, ← hx.1]
/-- .. over a map of strings. -/
theorem look_str {w : World} {b n : Nat} {D : DataW Value} (h : w.ownsMap Trym.prog 9 strE b n D) {k : ByteArray} (hk : k.size ≤ 9223372036854775807) :
    ∃ v, (Instr.lookup 29 (.map (some b)) (.string k) true).run Trym.prog w = .ok (.tuple #[.string v, .bool (Maps.has D (key k))]) w ∧ D.atKey (key k) (.held (.string ByteArray.empty)) = .held (.string v) := by
  obtain ⟨v, ps, hr, hv⟩ := h.look_ok law9 Trym.underlying29 (zero9 w) (zd := .held (.string ByteArray.empty)) (zp := []) rfl (key_of hk)
  obtain ⟨x, rfl, hx⟩ := strE_inv hv
  simp only [Prod.mk.injEq] at hx
  exact ⟨x, hr, hx.1⟩
theorem key_lit (k : ByteArray) : WideAt.IsKeyLit (key k) := trivial

/-- Two maps as read with the same keys have as many entries. -/
theorem size_of_has {D1 D2 : DataW Value} (h1 : Canon D1) (h2 : Canon D2) (hh : ∀ k, has D1 k = has D2 k) : Maps.size D1 = Maps.size D2 := by
  obtain ⟨e1, rfl, s1, k1⟩ := h1
  obtain ⟨e2, rfl, s2, k2⟩ := h2
  have strip : ∀ es : List (Lit × DataW Value), es.Pairwise (fun p q => p.1.before q.1 = true) → (es.map fun p => (p.1, (DataW.nil : DataW Value))).Pairwise (fun p q => p.1.before q.1 = true) := fun es h => List.pairwise_map.2 h
  have half : ∀ {es es' : List (Lit × DataW Value)}, (∀ p ∈ es, WideAt.IsKeyLit p.1) → (∀ k, has (.map es) k = true → has (.map es') k = true) → ∀ p, p ∈ (es.map fun p => (p.1, (DataW.nil : DataW Value))) → p ∈ (es'.map fun p => (p.1, (DataW.nil : DataW Value))) := by
    intro es es' hk h p hp
    obtain ⟨q, hq, rfl⟩ := List.mem_map.1 hp
    have hq1 : has (.map es) q.1 = true := List.any_eq_true.2 ⟨q, hq, WideAt.sameKey_self (hk q hq)⟩
    obtain ⟨q', hq', hs⟩ := List.any_eq_true.1 (h q.1 hq1)
    exact List.mem_map.2 ⟨q', hq', by rw [WideAt.sameKey_eq hs]⟩
  have e := eq_of_mem_rising (strip e1 s1) (strip e2 s2) (fun p => ⟨half k1 (fun k h => by rw [← hh]; exact h) p, half k2 (fun k h => by rw [hh]; exact h) p⟩)
  have := congrArg List.length e
  simpa [Maps.size] using this
end Go.Proofs.Qxb6600978aMods
