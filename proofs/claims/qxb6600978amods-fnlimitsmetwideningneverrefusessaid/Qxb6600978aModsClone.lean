import Derived.Test.Qxb6600978aModsAppend
import Derived.Test.Qxb6600978aModsSteps
import Derived.Deep.Cut
namespace Go.Proofs.Qxb6600978aMods
open Go.RowKit Go.Maps
open Go.WideMaps (keyOf_string_mk string_of_keyOf)

/-- A Grant in memory: block B holds its four fields. -/
def Box (w : World) (B : Nat) (v0 v1 v2 v3 : Value) : Prop := w.heap[B]? = some (.cells #[v0, v1, v2, v3] 38 (0, 0))
namespace Box
variable {w : World} {B : Nat} {v0 v1 v2 v3 : Value}
theorem c0 (h : Box w B v0 v1 v2 v3) : w.cell? ⟨B, 0, none⟩ = some v0 := by unfold Box at h; simp [World.cell?, h]
theorem c1 (h : Box w B v0 v1 v2 v3) : w.cell? ⟨B, 1, none⟩ = some v1 := by unfold Box at h; simp [World.cell?, h]
theorem c2 (h : Box w B v0 v1 v2 v3) : w.cell? ⟨B, 2, none⟩ = some v2 := by unfold Box at h; simp [World.cell?, h]
theorem c3 (h : Box w B v0 v1 v2 v3) : w.cell? ⟨B, 3, none⟩ = some v3 := by unfold Box at h; simp [World.cell?, h]
theorem fz (h : Box w B v0 v1 v2 v3) (i : Nat) : w.frozen? ⟨B, i, none⟩ = false := by unfold Box at h; simp [World.frozen?, h]
theorem lt (h : Box w B v0 v1 v2 v3) : B < w.heap.size := (Array.getElem?_eq_some_iff.1 h).1
theorem kept {w' : World} {row : Option Nat} (h : Box w B v0 v1 v2 v3) (hg : w.grownBy w' row) (hr : some B ≠ row) : Box w' B v0 v1 v2 v3 := (hg.block B h.lt hr).trans h
theorem alloc (h : Box w B v0 v1 v2 v3) (o : Obj) : Box (w.alloc o) B v0 v1 v2 v3 := h.kept (World.grownBy_alloc w o none) (by simp)
theorem drewN (h : Box w B v0 v1 v2 v3) (m : Nat) : Box (w.drewN m) B v0 v1 v2 v3 := h
theorem other (h : Box w B v0 v1 v2 v3) {a : Addr} (ha : B ≠ a.block) (v : Value) : Box (w.setCell a v) B v0 v1 v2 v3 := (Below.heap_setCell w a v B ha).trans h
theorem set1 (h : Box w B v0 v1 v2 v3) (v : Value) : Box (w.setCell ⟨B, 1, none⟩ v) B v0 v v2 v3 := by unfold Box at *; simp [World.setCell, Array.getElem?_modify, h]
theorem set2 (h : Box w B v0 v1 v2 v3) (v : Value) : Box (w.setCell ⟨B, 2, none⟩ v) B v0 v1 v v3 := by unfold Box at *; simp [World.setCell, Array.getElem?_modify, h]
theorem set3 (h : Box w B v0 v1 v2 v3) (v : Value) : Box (w.setCell ⟨B, 3, none⟩ v) B v0 v1 v2 v := by unfold Box at *; simp [World.setCell, Array.getElem?_modify, h]
end Box
theorem box_new (w : World) (v0 v1 v2 v3 : Value) : Box (w.alloc (.cells #[v0, v1, v2, v3] 38)) w.heap.size v0 v1 v2 v3 := heap_alloc_new w _

/-- A slice that was there reads as it did. -/
theorem Strs.below {w w' : World} {B : Nat} {a : Option Addr} {n : Nat} {s : Nat → ByteArray} (h : Strs w a n s) (hb : Below B w w') (hB : w.heap.size ≤ B) : Strs w' a n s := by
  obtain ⟨b, off, ha, hc⟩ := h
  exact ⟨b, off, ha, fun i hi => ⟨(hb.cell (p := ⟨b, off + i, none⟩) (Nat.lt_of_lt_of_le (World.block_lt_of_cell? _ _ (hc i hi).1) hB)).trans (hc i hi).1, (hc i hi).2⟩⟩

theorem grown_setCell (w : World) (a : Addr) (u : Value) : w.grownBy (w.setCell a u) (some a.block) :=
  ⟨rfl, rfl, rfl, by simp [World.setCell], fun k _ hk => Below.heap_setCell w a u k (fun e => hk (by rw [e]))⟩
theorem run_makeMap_hint (n : Int) (w : World) : (Instr.makeMap 27 (some (.int .i64 n))).run Trym.prog w = .ok (.map (some w.heap.size)) (w.alloc (.map #[] 0)) := by
  simp only [Instr.makeMap, Sem.run_bind, run_underlying Trym.underlying27, Result.andThen_ok]
  rfl

/-- What clone has done with the two lists: the box, the result's slot, the copies (below block hi). -/
structure Mid (w : World) (r : ByteArray) (n1 : Nat) (s1 : Nat → ByteArray) (n2 : Nat) (s2 : Nat → ByteArray) (m : Option Nat) (hi : Nat) (a1 : Option Addr) (c1 : Nat) (a2 : Option Addr) (c2 : Nat) (W : World) : Prop where
  box : Box W w.heap.size (.string r) (.slice a1 n1 c1) (.slice a2 n2 c2) (.map m)
  res : Box W (w.heap.size + 1) (.string ⟨#[]⟩) (.slice none 0 0) (.slice none 0 0) (.map none)
  bel : Below w.heap.size w W
  f1 : Fresh W (w.heap.size + 2) hi a1 n1 s1
  f2 : Fresh W (w.heap.size + 2) hi a2 n2 s2
  size : w.heap.size + 2 ≤ hi
  top : hi ≤ W.heap.size
theorem Mid.kept {w : World} {r : ByteArray} {n1 : Nat} {s1 : Nat → ByteArray} {n2 : Nat} {s2 : Nat → ByteArray} {m : Option Nat} {hi : Nat} {a1 : Option Addr} {c1 : Nat} {a2 : Option Addr} {c2 : Nat} {W W' : World} {row : Option Nat}
    (h : Mid w r n1 s1 n2 s2 m hi a1 c1 a2 c2 W) (hg : W.grownBy W' row) (hr : ∀ j, row = some j → hi ≤ j) : Mid w r n1 s1 n2 s2 m hi a1 c1 a2 c2 W' :=
  ⟨h.box.kept hg (fun e => by have := hr _ e.symm; have := h.size; omega), h.res.kept hg (fun e => by have := hr _ e.symm; have := h.size; omega),
    h.bel.grown hg h.bel.size (fun j hj => by have := hr j hj; have := h.size; omega), h.f1.kept hg (fun j hj => .inr (hr j hj)), h.f2.kept hg (fun j hj => .inr (hr j hj)), h.size, Nat.le_trans h.top hg.size⟩

/-- D' is D0, each slice copied. -/
def CopyMap (w w' : World) (D0 D' : DataW Value) : Prop :=
  (∀ kl, has D' kl = has D0 kl) ∧ ∀ kl, has D0 kl = true → ∃ a n c s a' c', (∀ z, D0.atKey kl z = .held (.slice a n c)) ∧ (∀ z, D'.atKey kl z = .held (.slice a' n c')) ∧ n ≤ 1048576 ∧ Strs w' a n s ∧ Fresh w' w.heap.size w'.heap.size a' n s
/-- Each element of D0 is a slice of strings that can be read. -/
def Reads (w : World) (D0 : DataW Value) : Prop :=
  ∀ kl, has D0 kl = true → ∃ a n c s, (∀ z, D0.atKey kl z = .held (.slice a n c)) ∧ n ≤ 1048576 ∧ Strs w a n s

/-- WHAT clone HANDS BACK. -/
def COut (w : World) (r : ByteArray) (n1 : Nat) (s1 : Nat → ByteArray) (n2 : Nat) (s2 : Nat → ByteArray) (m : Option Nat) (D0 : DataW Value) (e : Ending) (w' : World) : Prop :=
  ∃ a1 c1 a2 c2 m', e = .returned (.agg #[.string r, .slice a1 n1 c1, .slice a2 n2 c2, .map m']) ∧ Fresh w' w.heap.size w'.heap.size a1 n1 s1 ∧ Fresh w' w.heap.size w'.heap.size a2 n2 s2 ∧ Below w.heap.size w w' ∧
    ((m = none ∧ m' = none) ∨ ∃ M' N D', m.isSome = true ∧ m' = some M' ∧ w.heap.size ≤ M' ∧ w'.ownsMap Trym.prog 9 slcE M' N D' ∧ CopyMap w w' D0 D')

theorem put4 {W : World} {B : Nat} {z0 z1 z2 z3 : Value} (h : Box W B z0 z1 z2 z3) (v0 v1 v2 v3 : Value) :
    Box ((((W.setCell ⟨B, 0, none⟩ v0).setCell ⟨B, 1, none⟩ v1).setCell ⟨B, 2, none⟩ v2).setCell ⟨B, 3, none⟩ v3) B v0 v1 v2 v3 ∧
    W.grownBy ((((W.setCell ⟨B, 0, none⟩ v0).setCell ⟨B, 1, none⟩ v1).setCell ⟨B, 2, none⟩ v2).setCell ⟨B, 3, none⟩ v3) (some B) := by
  have h0 : Box (W.setCell ⟨B, 0, none⟩ v0) B v0 z1 z2 z3 := by unfold Box at *; simp [World.setCell, Array.getElem?_modify, h]
  refine ⟨((h0.set1 _).set2 _).set3 _, ?_⟩
  have t : ∀ {a b c : World}, a.grownBy b (some B) → b.grownBy c (some B) → a.grownBy c (some B) := fun x y => x.andThen y (fun j hj => .inr hj)
  exact t (t (t (grown_setCell _ _ _) (grown_setCell _ _ _)) (grown_setCell _ _ _)) (grown_setCell _ _ _)

theorem owns_below {w W : World} {k : TypeId} {R : Value → Option (DataW Value × List MemPlace)} {b n B : Nat} {D : DataW Value} (h : w.ownsMap Trym.prog k R b n D) (hb : Below B w W) (hB : b < B) : W.ownsMap Trym.prog k R b n D := by
  obtain ⟨es, clock, hh, r⟩ := h
  exact ⟨es, clock, (hb.block b hB).trans hh, r⟩

/-- THE LOOP OF clone UNDER WAY. -/
structure Inv (w : World) (r : ByteArray) (n1 : Nat) (s1 : Nat → ByteArray) (n2 : Nat) (s2 : Nat → ByteArray) (M hi : Nat) (a1 : Option Addr) (c1 : Nat) (a2 : Option Addr) (c2 : Nat) (M' R N0 : Nat) (D0 : DataW Value) (W : World) (left : Lit → Bool) (cnt : Nat) (D : DataW Value) : Prop where
  mid : Mid w r n1 s1 n2 s2 (some M) hi a1 c1 a2 c2 W
  rng : W.ranges Trym.prog 9 slcE M R N0 D0 left cnt
  le : cnt ≤ N0
  out : W.ownsMap Trym.prog 9 slcE M' (N0 - cnt) D
  keys : ∀ k, has D k = (has D0 k && !left k)
  cop : ∀ kl, has D kl = true → ∃ a n c s a' c', (∀ z, D0.atKey kl z = .held (.slice a n c)) ∧ (∀ z, D.atKey kl z = .held (.slice a' n c')) ∧ n ≤ 1048576 ∧ Strs w a n s ∧ Fresh W (R + 1) W.heap.size a' n s
  up : hi ≤ M' ∧ M' < R

theorem Inv.step {w : World} {r : ByteArray} {n1 : Nat} {s1 : Nat → ByteArray} {n2 : Nat} {s2 : Nat → ByteArray} {M hi : Nat} {a1 : Option Addr} {c1 : Nat} {a2 : Option Addr} {c2 : Nat} {M' R N0 : Nat} {D0 : DataW Value} {W : World} {left : Lit → Bool} {cnt : Nat} {D : DataW Value}
    (h : Inv w r n1 s1 n2 s2 M hi a1 c1 a2 c2 M' R N0 D0 W left cnt D) (hM : M < w.heap.size) {k : ByteArray} {p : Option Addr} {l c : Nat} {w1 w2 w3 : World} {cnt1 : Nat} (hat : ∀ zd, D0.atKey (key k) zd = .held (.slice p l c))
    (hrg1 : w1.ranges Trym.prog 9 slcE M R N0 D0 (fun z => left z && !z.sameKey (key k)) cnt1) (hlt : cnt1 < cnt) (hg1 : W.grownBy w1 (some R)) {s : Nat → ByteArray} (hl : l ≤ 1048576) (hst : Strs w p l s) {p' : Option Addr} {c' : Nat}
    (hf2 : Fresh w2 w1.heap.size w2.heap.size p' l s) (hg2 : w1.grownBy w2 none) (hout3 : w3.ownsMap Trym.prog 9 slcE M' (N0 - cnt + 1) (D.put (key k) (.held (.slice p' l c')))) (hg3 : w2.grownBy w3 (some M')) :
    Inv w r n1 s1 n2 s2 M hi a1 c1 a2 c2 M' R N0 D0 w3 (fun z => left z && !z.sameKey (key k)) cnt1 (D.put (key k) (.held (.slice p' l c'))) := by
  have hup := h.up
  have hsz := h.mid.size
  have hle := h.le
  have hm := h.out.isMap
  refine ⟨((h.mid.kept hg1 (fun j hj => by cases hj; omega)).kept hg2 (fun j hj => by cases hj)).kept hg3 (fun j hj => by cases hj; omega),
    (hrg1.kept hg2 (by simp) (by simp)).kept hg3 (fun e => by have := Option.some.inj e; omega) (fun e => by have := Option.some.inj e; omega), by omega, hout3.mono (by omega), fun q => ?_, fun q hq => ?_, hup⟩
  · by_cases e : q = key k
    · subst e
      show has (D.put (key k) _) (key k) = (has D0 (key k) && !(left (key k) && !(key k).sameKey (key k)))
      rw [has_put_same hm (key_lit k), has_true_of_atKey hat, WideAt.sameKey_self (key_lit k)]
      simp
    · show has (D.put (key k) _) q = (has D0 q && !(left q && !q.sameKey (key k)))
      rw [has_put_other e, h.keys q, sameKey_ne e]
      simp
  · by_cases e : q = key k
    · subst e
      refine ⟨p, l, c, s, p', c', hat, fun z => atKey_put_same hm (key_lit k) _ z, hl, hst, ?_⟩
      have := hrg1.lt
      exact (hf2.kept hg3 (fun j hj => by cases hj; left; omega)).mono (by omega) hg3.size
    · rw [has_put_other e] at hq
      obtain ⟨a, n, cc, ss, a', cc', h1, h2, h3, h4, h5⟩ := h.cop q hq
      refine ⟨a, n, cc, ss, a', cc', h1, fun z => (atKey_put_other e _ z).trans (h2 z), h3, h4, ?_⟩
      exact (((h5.kept hg1 (fun j hj => by cases hj; left; omega)).kept hg2 (fun j hj => by cases hj)).kept hg3 (fun j hj => by cases hj; left; omega)).mono (Nat.le_refl _) (Nat.le_trans hg1.size (Nat.le_trans hg2.size hg3.size))

/-- THE LOOP's END. -/
theorem Inv.done {w : World} {r : ByteArray} {n1 : Nat} {s1 : Nat → ByteArray} {n2 : Nat} {s2 : Nat → ByteArray} {M hi : Nat} {a1 : Option Addr} {c1 : Nat} {a2 : Option Addr} {c2 : Nat} {M' R N0 : Nat} {D0 : DataW Value} {W : World} {left : Lit → Bool} {cnt : Nat} {D : DataW Value}
    (h : Inv w r n1 s1 n2 s2 M hi a1 c1 a2 c2 M' R N0 D0 W left cnt D) (hl : ∀ kl, left kl = false) {W' : World} (hg : W.grownBy W' (some w.heap.size)) {Wf : World} (hg' : W'.grownBy Wf (some (w.heap.size + 1))) :
    COut w r n1 s1 n2 s2 (some M) D0 (.returned (.agg #[.string r, .slice a1 n1 c1, .slice a2 n2 c2, .map (some M')])) Wf := by
  have hup := h.up
  have hsz := h.mid.size
  have hk : ∀ k, has D k = has D0 k := fun k => by rw [h.keys, hl]; simp
  have f1 := (h.mid.f1.kept hg (fun j hj => by cases hj; left; omega)).kept hg' (fun j hj => by cases hj; left; omega)
  have f2 := (h.mid.f2.kept hg (fun j hj => by cases hj; left; omega)).kept hg' (fun j hj => by cases hj; left; omega)
  have ht : hi ≤ Wf.heap.size := Nat.le_trans h.mid.top (Nat.le_trans hg.size hg'.size)
  have hbf : Below w.heap.size w Wf := (h.mid.bel.grown hg h.mid.bel.size (fun j hj => by cases hj; omega)).grown hg' (Nat.le_trans h.mid.bel.size hg.size) (fun j hj => by cases hj; omega)
  refine ⟨a1, c1, a2, c2, some M', rfl, f1.mono (by omega) ht, f2.mono (by omega) ht, hbf,
    .inr ⟨M', _, D, rfl, rfl, by omega, (h.out.kept hg (fun e => by have := Option.some.inj e; omega)).kept hg' (fun e => by have := Option.some.inj e; omega), hk, fun kl hkl => ?_⟩⟩
  obtain ⟨a, n, cc, ss, a', cc', h1, h2, h3, h4, h5⟩ := h.cop kl (by rw [hk]; exact hkl)
  have h6 := (h5.kept hg (fun j hj => by cases hj; left; omega)).kept hg' (fun j hj => by cases hj; left; omega)
  exact ⟨a, n, cc, ss, a', cc', h1, h2, h3, h4.below hbf (Nat.le_refl _), h6.mono (by omega) (Nat.le_trans hg.size hg'.size)⟩

set_option maxHeartbeats 1000000 in
theorem clone21 (r : ByteArray) (a1 : Option Addr) (n1 c1 : Nat) (s1 : Nat → ByteArray) (a2 : Option Addr) (n2 c2 : Nat) (s2 : Nat → ByteArray) (m : Option Nat) (N0 : Nat) (D0 : DataW Value) (hn1 : n1 ≤ 1048576) (hn2 : n2 ≤ 1048576) (w : World) (h1 : Strs w a1 n1 s1) (h2 : Strs w a2 n2 s2)
    (hm : ∀ M, m = some M → w.ownsMap Trym.prog 9 slcE M N0 D0 ∧ Reads w D0) (hN : N0 ≤ 1048576) :
    Calls Trym.prog 21 #[.agg #[.string r, .slice a1 n1 c1, .slice a2 n2 c2, .map m]] w (COut w r n1 s1 n2 s2 m D0) := by
  have H1 : Hid (Strs w a1 n1 s1) := h1
  have H2 : Hid (Strs w a2 n2 s2) := h2
  have Hm : Hid (∀ M, m = some M → w.ownsMap Trym.prog 9 slcE M N0 D0 ∧ Reads w D0) := hm
  clear h1 h2 hm
  have q27 : ∀ (w : World) (r : Option Nat), (binOp .neq 27 (.map r) (.map none)).run Trym.prog w = .ok (.bool (!r.isNone)) w := fun w r => run_neq_map_nil w _ _ _ r Trym.underlying27
  go_enter Trym.func21, Trym.ntmps21
  go_upto_region 1 with fail
  obtain ⟨W1, hW1⟩ : ∃ W, W = (w.alloc (.cells #[.string r, .slice a1 n1 c1, .slice a2 n2 c2, .map m] 38)).alloc (.cells #[.string ⟨#[]⟩, .slice none 0 0, .slice none 0 0, .map none] 38) := ⟨_, rfl⟩
  rw [← hW1]
  have b1 : Box W1 w.heap.size (.string r) (.slice a1 n1 c1) (.slice a2 n2 c2) (.map m) := by rw [hW1]; exact (box_new _ _ _ _ _).alloc _
  have z1 : Box W1 (w.heap.size + 1) (.string ⟨#[]⟩) (.slice none 0 0) (.slice none 0 0) (.map none) := by
    have := box_new (w.alloc (.cells #[.string r, .slice a1 n1 c1, .slice a2 n2 c2, .map m] 38)) (.string ⟨#[]⟩) (.slice none 0 0) (.slice none 0 0) (.map none)
    rw [World.size_alloc] at this
    rw [hW1]; exact this
  have bl1 : Below w.heap.size w W1 := by rw [hW1]; exact ((Below.refl _ _).alloc (Nat.le_refl _) _).alloc (by simp) _
  have Sz1 : Hid (W1.heap.size = w.heap.size + 2) := by rw [hW1]; show _ = _; simp
  clear hW1
  have k1 := b1.c1
  go_upto_region 2 with (first | (at_builtin; refine wpList_append_copy _ rfl (.tmp 7) rfl a1 n1 c1 s1 rfl hn1 (H1.out.below bl1 (Nat.le_refl _)) ?_; intro a1' c1' w2 hf1 hg1; have k1a := (b1.kept hg1 (by simp)).c1; have kfa := (b1.kept hg1 (by simp)).fz 1))
  obtain ⟨W2, hW2⟩ : ∃ W, W = w2.setCell ⟨w.heap.size, 1, none⟩ (.slice a1' n1 c1') := ⟨_, rfl⟩
  rw [← hW2]
  have g2 : w2.grownBy W2 (some w.heap.size) := by rw [hW2]; exact grown_setCell _ _ _
  have b2 : Box W2 w.heap.size (.string r) (.slice a1' n1 c1') (.slice a2 n2 c2) (.map m) := by rw [hW2]; exact (b1.kept hg1 (by simp)).set1 _
  have z2 := (z1.kept hg1 (by simp)).kept g2 (by simp)
  have bl2 : Below w.heap.size w W2 := (bl1.grown hg1 bl1.size (fun j hj => by cases hj)).grown g2 (Nat.le_trans bl1.size hg1.size) (fun j hj => by cases hj; exact Nat.le_refl _)
  have f2 : Fresh W2 (w.heap.size + 2) w2.heap.size a1' n1 s1 := ((hf1.mono (Nat.le_of_eq Sz1.out.symm) (Nat.le_refl _)).kept g2 (fun j hj => by cases hj; left; omega))
  have sz2 : w.heap.size + 2 ≤ w2.heap.size ∧ w2.heap.size ≤ W2.heap.size := ⟨by have := hg1.size; rw [Sz1.out] at this; exact this, g2.size⟩
  clear hW2 k1 k1a kfa b1 z1 bl1 hf1 hg1 g2 Sz1
  have k2 := b2.c2
  go_upto_region 3 with (first | (at_builtin; refine wpList_append_copy _ rfl (.tmp 11) rfl a2 n2 c2 s2 rfl hn2 (H2.out.below bl2 (Nat.le_refl _)) ?_; intro a2' c2' w3 hf2 hg2; have k1a := (b2.kept hg2 (by simp)).c2; have kfa := (b2.kept hg2 (by simp)).fz 2))
  obtain ⟨W3, hW3⟩ : ∃ W, W = w3.setCell ⟨w.heap.size, 2, none⟩ (.slice a2' n2 c2') := ⟨_, rfl⟩
  rw [← hW3]
  have hmid : Mid w r n1 s1 n2 s2 m w3.heap.size a1' c1' a2' c2' W3 := by
    have g3 : w3.grownBy W3 (some w.heap.size) := by rw [hW3]; exact grown_setCell _ _ _
    have hs := hg2.size
    refine ⟨by rw [hW3]; exact (b2.kept hg2 (by simp)).set2 _, (z2.kept hg2 (by simp)).kept g3 (by simp), (bl2.grown hg2 bl2.size (fun j hj => by cases hj)).grown g3 (Nat.le_trans bl2.size hs) (fun j hj => by cases hj; exact Nat.le_refl _), ?_, ?_, by omega, g3.size⟩
    · exact ((f2.kept hg2 (fun j hj => by cases hj)).mono (Nat.le_refl _) (by omega)).kept g3 (fun j hj => by cases hj; left; omega)
    · exact (hf2.mono (by omega) (Nat.le_refl _)).kept g3 (fun j hj => by cases hj; left; omega)
  clear hW3 k2 k1a kfa b2 z2 bl2 f2 hf2 hg2 sz2 H1 H2
  generalize w3.heap.size = hi at hmid
  clear w3 w2 W2 W1
  have e3 := hmid.box.c3
  cases m with
  | none =>
    have e0 := hmid.box.c0
    have e1 := hmid.box.c1
    have e2 := hmid.box.c2
    have y0 := hmid.res.c0
    have y1 := hmid.res.c1
    have y2 := hmid.res.c2
    have y3 := hmid.res.c3
    have yf := hmid.res.fz
    go_wp2
    obtain ⟨hb, hg⟩ := put4 hmid.res (.string r) (.slice a1' n1 c1') (.slice a2' n2 c2') (.map none)
    generalize ((((W3.setCell ⟨w.heap.size + 1, 0, none⟩ (.string r)).setCell ⟨w.heap.size + 1, 1, none⟩ (.slice a1' n1 c1')).setCell ⟨w.heap.size + 1, 2, none⟩ (.slice a2' n2 c2')).setCell ⟨w.heap.size + 1, 3, none⟩ (.map none)) = Wf at hb hg ⊢
    have x0 := hb.c0
    have x1 := hb.c1
    have x2 := hb.c2
    have x3 := hb.c3
    refine bodyPost_ret (v := .agg #[.string r, .slice a1' n1 c1', .slice a2' n2 c2', .map none]) (by simp [results, Trym.results21, go_sem, x0, x1, x2, x3]) rfl ?_
    have f1 := hmid.f1.kept hg (fun j hj => by cases hj; left; omega)
    have f2 := hmid.f2.kept hg (fun j hj => by cases hj; left; omega)
    have ht : hi ≤ Wf.heap.size := Nat.le_trans hmid.top hg.size
    exact ⟨a1', c1', a2', c2', none, rfl, f1.mono (by omega) ht, f2.mono (by omega) ht, hmid.bel.grown hg hmid.bel.size (fun j hj => by cases hj; omega), .inl ⟨rfl, rfl⟩⟩
  | some M =>
    obtain ⟨hown, hreads⟩ := Hm.out M rfl
    have hM := hown.lt
    have hown3 := owns_below hown hmid.bel hM
    have hmk := run_makeMap_hint
    go_upto_region 5 with (first | (at_len; refine wpList_len_own _ rfl (.tmp 18) 27 rfl 9 22 Trym.underlying27 slcE M N0 D0 rfl hown3 ?_))
    obtain ⟨W4, hW4⟩ : ∃ W, W = W3.alloc (.map #[] 0) := ⟨_, rfl⟩
    rw [← hW4]
    have hmid4 : Mid w r n1 s1 n2 s2 (some M) hi a1' c1' a2' c2' W4 := by rw [hW4]; exact hmid.kept (World.grownBy_alloc _ _ none) (fun j hj => by cases hj)
    have hown4 : W4.ownsMap Trym.prog 9 slcE M N0 D0 := by rw [hW4]; exact hown3.alloc _
    have hout4 : W4.ownsMap Trym.prog 9 slcE W3.heap.size 0 (.map []) := by rw [hW4]; exact World.ownsMap_made _ _ _ _
    have hup : hi ≤ W3.heap.size ∧ W3.heap.size < W4.heap.size := ⟨hmid.top, hout4.lt⟩
    clear hmk hown3 e3 hmid hW4
    generalize W3.heap.size = M' at *
    have e3 := hmid4.box.c3
    go_wp2_with (first
      | (at_range; refine wpList_range_own _ rfl (.tmp 22) 27 rfl 9 22 law9 Trym.underlying27 slcE M N0 D0 rfl hown4 ?_; intro w5 hrg5 hg5 hs5)
      | go_in)
    go_frame
    have hI : Inv w r n1 s1 n2 s2 M hi a1' c1' a2' c2' M' W4.heap.size N0 D0 w5 (has D0) (Maps.size D0) (.map []) :=
      ⟨hmid4.kept hg5 (fun j hj => by cases hj), hrg5, hown4.size_le, (hout4.kept hg5 (by simp)).mono (Nat.zero_le _), fun k => (by cases has D0 k <;> rfl), fun kl h => (by cases h), hup⟩
    clear hrg5 hg5 hs5 hmid4 hown4 hout4 hup e3
    generalize W4.heap.size = R at *
    go_loopw [4] (fun _ wr => ∃ (left : Lit → Bool) (cnt : Nat) (D : DataW Value), Inv w r n1 s1 n2 s2 M hi a1' c1' a2' c2' M' R N0 D0 wr left cnt D) (fun _ wr => wr.rangeLeft M R)
    case atStart => exact ⟨_, _, _, hI⟩
    case round =>
      clear hI
      obtain ⟨left, cnt, D, hI⟩ := hrel
      have hrg := hI.rng
      go_wp2_with (first
        | (at_next; refine next_slc _ rfl _ rfl M R N0 D0 left cnt rfl hrg ?_ ?_)
        | go_in)
      · intro hc0 hl0
        have e0 := hI.mid.box.c0
        have e1 := hI.mid.box.c1
        have e2 := hI.mid.box.c2
        have e3 := hI.mid.box.c3
        have ef := hI.mid.box.fz
        have y0 := hI.mid.res.c0
        have y1 := hI.mid.res.c1
        have y2 := hI.mid.res.c2
        have y3 := hI.mid.res.c3
        have yf := hI.mid.res.fz
        have HI : Hid (Inv w r n1 s1 n2 s2 M hi a1' c1' a2' c2' M' R N0 D0 wr left cnt D) := hI
        clear hI hrg
        go_wp2
        have hres := HI.out.mid.res.other (a := ⟨w.heap.size, 3, none⟩) (show w.heap.size + 1 ≠ w.heap.size by omega) (.map (some M'))
        have hg := grown_setCell wr ⟨w.heap.size, 3, none⟩ (.map (some M'))
        generalize wr.setCell ⟨w.heap.size, 3, none⟩ (.map (some M')) = W9 at hres hg ⊢
        obtain ⟨hb, hg'⟩ := put4 hres (.string r) (.slice a1' n1 c1') (.slice a2' n2 c2') (.map (some M'))
        generalize ((((W9.setCell ⟨w.heap.size + 1, 0, none⟩ (.string r)).setCell ⟨w.heap.size + 1, 1, none⟩ (.slice a1' n1 c1')).setCell ⟨w.heap.size + 1, 2, none⟩ (.slice a2' n2 c2')).setCell ⟨w.heap.size + 1, 3, none⟩ (.map (some M'))) = Wf at hb hg' ⊢
        have x0 := hb.c0
        have x1 := hb.c1
        have x2 := hb.c2
        have x3 := hb.c3
        exact bodyPost_ret (v := .agg #[.string r, .slice a1' n1 c1', .slice a2' n2 c2', .map (some M')]) (by simp [results, Trym.results21, go_sem, x0, x1, x2, x3]) rfl (HI.out.done hl0 hg hg')
      · intro k p l c w1 cnt1 hk hlk hat hrg1 hlt hg1 hs1 hen
        obtain ⟨a, n, cc, s, hat', hl, hst⟩ := hreads (key k) (has_true_of_atKey hat)
        have e := (hat .nil).symm.trans (hat' .nil)
        simp only [DataW.held.injEq, Value.slice.injEq] at e
        obtain ⟨rfl, rfl, rfl⟩ := e
        have hb1 : Below w.heap.size w w1 := hI.mid.bel.grown hg1 hI.mid.bel.size (fun j hj => by cases hj; have := hI.up; have := hI.mid.size; omega)
        have hout1 := hI.out.kept hg1 (fun e => by have := Option.some.inj e; have := hI.up; omega)
        have hcm : N0 - cnt < maxLen := by unfold maxLen; omega
        have HI : Hid (Inv w r n1 s1 n2 s2 M hi a1' c1' a2' c2' M' R N0 D0 wr left cnt D) := hI
        have Hat : Hid (∀ zd, D0.atKey (key k) zd = .held (.slice p l c)) := hat
        clear hI hat hat'
        go_wp2_with (first
          | (at_builtin; refine wpList_append_copy _ rfl (.tmp 31) rfl p l c s rfl hl (hst.below hb1 (Nat.le_refl _)) ?_; intro p' c' w2 hf2 hg2)
          | (at_mapUpdate; refine wpList_mapUpdate_own _ rfl _ _ _ 27 rfl 9 22 law9 Trym.underlying27 slcE M' _ D rfl (hout1.kept hg2 (by simp)) hcm _ _ (key k) rfl rfl (key_of hk) _ [] rfl ?_; intro w3 hout3 hg3; go_frame)
          | go_in)
        have hI2 := HI.out.step hM Hat.out hrg1 hlt hg1 hl hst hf2 hg2 hout3 hg3
        have hrg2 := hI2.rng
        go_roundw
        case rel => exact ⟨_, _, _, hI2⟩
        case measure => rw [hrg2.left_eq, hrg.left_eq]; exact hlt

theorem Strs.lt {w : World} {a : Option Addr} {n : Nat} {s : Nat → ByteArray} (h : Strs w a n s) {b off : Nat} (ha : a = some ⟨b, off, none⟩) (hp : 0 < n) : b < w.heap.size := by
  obtain ⟨b', off', ha', hc⟩ := h
  have e := ha.symm.trans (ha' hp)
  simp only [Option.some.injEq, Addr.mk.injEq] at e
  obtain ⟨rfl, rfl, _⟩ := e
  exact World.block_lt_of_cell? _ _ (hc 0 hp).1
theorem Strs.far {w w' : World} {row : Option Nat} {a : Option Addr} {n : Nat} {s : Nat → ByteArray} (h : Strs w a n s) (hg : w.grownBy w' row) (hr : ∀ j, row = some j → ∀ b off, a = some ⟨b, off, none⟩ → 0 < n → b ≠ j) : Strs w' a n s := by
  obtain ⟨b, off, ha, hc⟩ := h
  exact ⟨b, off, ha, fun i hi => ⟨hg.cell (hc i hi).1 (fun e => hr b e.symm b off (ha (by omega)) (by omega) rfl), (hc i hi).2⟩⟩

set_option maxHeartbeats 1000000 in
theorem zz17 (r : ByteArray) (a1 : Option Addr) (n1 c1 : Nat) (s1 : Nat → ByteArray) (a2 : Option Addr) (n2 c2 : Nat) (s2 : Nat → ByteArray) (m : Option Nat) (N0 : Nat) (D0 : DataW Value) (hn1 : n1 ≤ 1048576) (hn2 : n2 ≤ 1048576) (w : World) (h1 : Strs w a1 n1 s1) (h2 : Strs w a2 n2 s2)
    (hm : ∀ M, m = some M → w.ownsMap Trym.prog 9 slcE M N0 D0 ∧ Reads w D0) (hN : N0 ≤ 1048576) :
    Calls Trym.prog 17 #[.agg #[.string r, .slice a1 n1 c1, .slice a2 n2 c2, .map m]] w (COut w r n1 s1 n2 s2 m D0) := by
  have H1 : Hid (Strs w a1 n1 s1) := h1
  have H2 : Hid (Strs w a2 n2 s2) := h2
  have Hm : Hid (∀ M, m = some M → w.ownsMap Trym.prog 9 slcE M N0 D0 ∧ Reads w D0) := hm
  clear h1 h2 hm
  go_enter Trym.func17, Trym.ntmps17
  go_upto_region 1 with fail
  obtain ⟨W1, hW1⟩ : ∃ W, W = (w.alloc (.cells #[.string r, .slice a1 n1 c1, .slice a2 n2 c2, .map m] 38)).alloc (.cells #[.string ⟨#[]⟩, .slice none 0 0, .slice none 0 0, .map none] 38) := ⟨_, rfl⟩
  rw [← hW1]
  have b1 : Box W1 w.heap.size (.string r) (.slice a1 n1 c1) (.slice a2 n2 c2) (.map m) := by rw [hW1]; exact (box_new _ _ _ _ _).alloc _
  have z1 : Box W1 (w.heap.size + 1) (.string ⟨#[]⟩) (.slice none 0 0) (.slice none 0 0) (.map none) := by
    have := box_new (w.alloc (.cells #[.string r, .slice a1 n1 c1, .slice a2 n2 c2, .map m] 38)) (.string ⟨#[]⟩) (.slice none 0 0) (.slice none 0 0) (.map none)
    rw [World.size_alloc] at this
    rw [hW1]; exact this
  have bl1 : Below w.heap.size w W1 := by rw [hW1]; exact ((Below.refl _ _).alloc (Nat.le_refl _) _).alloc (by simp) _
  clear hW1
  have e0 := b1.c0
  have e1 := b1.c1
  have e2 := b1.c2
  have e3 := b1.c3
  go_wp2_with fail
  refine (clone21 r a1 n1 c1 s1 a2 n2 c2 s2 m N0 D0 hn1 hn2 _ (H1.out.below bl1 (Nat.le_refl _)) (H2.out.below bl1 (Nat.le_refl _)) (fun M hM => ⟨owns_below (Hm.out M hM).1 bl1 (Hm.out M hM).1.lt, fun kl hkl => ?_⟩) hN).mono ?_
  · obtain ⟨a, n, c, s, h3, h4, h5⟩ := (Hm.out M hM).2 kl hkl
    exact ⟨a, n, c, s, h3, h4, h5.below bl1 (Nat.le_refl _)⟩
  rintro x w2 ⟨a1', c1', a2', c2', m', rfl, g1, g2, bl2, hmm⟩
  have hs1 : w.heap.size + 2 ≤ W1.heap.size := by have := z1.lt; omega
  have z2 : Box w2 (w.heap.size + 1) (.string ⟨#[]⟩) (.slice none 0 0) (.slice none 0 0) (.map none) := (bl2.block _ (by omega)).trans z1
  have y0 := z2.c0
  have y1 := z2.c1
  have y2 := z2.c2
  have y3 := z2.c3
  have yf := z2.fz
  have Hmm : Hid _ := hmm
  clear e0 e1 e2 e3 hmm
  go_wp2_with fail
  obtain ⟨hb, hg'⟩ := put4 z2 (.string r) (.slice a1' n1 c1') (.slice a2' n2 c2') (.map m')
  generalize ((((w2.setCell ⟨w.heap.size + 1, 0, none⟩ (.string r)).setCell ⟨w.heap.size + 1, 1, none⟩ (.slice a1' n1 c1')).setCell ⟨w.heap.size + 1, 2, none⟩ (.slice a2' n2 c2')).setCell ⟨w.heap.size + 1, 3, none⟩ (.map m')) = Wf at hb hg' ⊢
  have x0 := hb.c0
  have x1 := hb.c1
  have x2 := hb.c2
  have x3 := hb.c3
  refine bodyPost_ret (v := .agg #[.string r, .slice a1' n1 c1', .slice a2' n2 c2', .map m']) (by simp [results, Trym.results17, go_sem, x0, x1, x2, x3]) rfl ?_
  have kp : ∀ {a n s}, Fresh w2 W1.heap.size w2.heap.size a n s → Fresh Wf w.heap.size Wf.heap.size a n s := fun h => (h.kept hg' (fun j hj => by cases hj; left; omega)).mono (by omega) hg'.size
  refine ⟨a1', c1', a2', c2', m', rfl, kp g1, kp g2, (bl1.trans (bl2.mono (by omega))).grown hg' (Nat.le_trans bl1.size bl2.size) (fun j hj => by cases hj; omega), ?_⟩
  rcases Hmm.out with h | ⟨M', N, D', h3, h4, h5, h6, h7, h8⟩
  · exact .inl h
  · refine .inr ⟨M', N, D', h3, h4, by omega, h6.kept hg' (fun e => by have := Option.some.inj e; omega), h7, fun kl hkl => ?_⟩
    obtain ⟨a, n, c, s, a', c', q1, q2, q3, q4, q5⟩ := h8 kl hkl
    obtain ⟨M, hM⟩ := Option.isSome_iff_exists.1 h3
    obtain ⟨ao, no, co, so, o1, o2, o3⟩ := (Hm.out M hM).2 kl hkl
    have e := (q1 .nil).symm.trans (o1 .nil)
    simp only [DataW.held.injEq, Value.slice.injEq] at e
    obtain ⟨rfl, rfl, rfl⟩ := e
    refine ⟨_, _, _, s, a', c', q1, q2, q3, q4.far hg' (fun j hj b off ha hp => ?_), kp q5⟩
    cases hj
    have := o3.lt ha hp
    omega
end Go.Proofs.Qxb6600978aMods
