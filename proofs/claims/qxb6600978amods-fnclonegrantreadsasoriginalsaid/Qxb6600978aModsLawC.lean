import Derived.Test.Qxb6600978aModsClone
import Derived.Test.Qxb6600978aModsBytesC
import Derived.Test.Qxb6600978aModsFill
namespace Go.Proofs.Qxb6600978aMods
open Go.RowKit Go.Maps

theorem Grid.below {w w' : World} {B : Nat} {a : Option Addr} {n : Nat} {A : Nat → Option Addr} {L C : Nat → Nat} {S : Nat → Nat → ByteArray} (h : Grid w a n A L C S) (hb : Below B w w') (hB : w.heap.size ≤ B) : Grid w' a n A L C S := by
  obtain ⟨b, off, ha, hc⟩ := h
  exact ⟨b, off, ha, fun i hi => ⟨(hb.cell (p := ⟨b, off + i, none⟩) (Nat.lt_of_lt_of_le (World.block_lt_of_cell? _ _ (hc i hi).1) hB)).trans (hc i hi).1, (hc i hi).2.1, (hc i hi).2.2.below hb hB⟩⟩
/-- A quiet callee inside a region behind other draws. -/
theorem quiet_at {P : Program} {f : FuncId} {args : Array Value} {w : World} {i j : Nat} {v : Value} (h : Calls P f args (w.drewN (i + j)) fun e w' => e = .returned v ∧ ∃ m, w' = (w.drewN (i + j)).drewN m) :
    Calls P f args (w.drewN (i + j)) fun e w'' => e = .returned v ∧ ∃ n, w'' = w.drewN (i + n) :=
  h.mono fun _ _ ⟨he, m, hm⟩ => ⟨he, j + m, by rw [hm, World.drewN_drewN, Nat.add_assoc]⟩
theorem Strs.alloc {w : World} {a : Option Addr} {n : Nat} {s : Nat → ByteArray} (h : Strs w a n s) (o : Obj) : Strs (w.alloc o) a n s := h.far (World.grownBy_alloc w o none) (fun j hj => by cases hj)
theorem Strs.drewN {w : World} {a : Option Addr} {n : Nat} {s : Nat → ByteArray} (h : Strs w a n s) (m : Nat) : Strs (w.drewN m) a n s := h
theorem bdrewN {B : Nat} {a w : World} (h : Below B a w) (n : Nat) : Below B a (w.drewN n) := ⟨h.os, h.tape, h.output, h.size, h.block⟩

set_option maxRecDepth 100000 in
set_option maxHeartbeats 4000000 in
theorem lawC (r : ByteArray) (a1 : Option Addr) (n1 c1 : Nat) (s1 : Nat → ByteArray) (a2 : Option Addr) (n2 c2 : Nat) (s2 : Nat → ByteArray) (a3 : Option Addr) (n3 c3 : Nat) (s3 : Nat → ByteArray) (a4 : Option Addr) (n4 c4 : Nat) (A : Nat → Option Addr) (L C : Nat → Nat) (S : Nat → Nat → ByteArray) (bo : Bool)
    (hr : r.size ≤ 9223372036854775807) (hn1 : n1 ≤ 9223372036854775807) (hn2 : n2 ≤ 9223372036854775807) (hn3 : n3 ≤ 9223372036854775807) (hn4 : n4 ≤ 9223372036854775807) (w : World)
    (h1 : Strs w a1 n1 s1) (h2 : Strs w a2 n2 s2) (h3 : Strs w a3 n3 s3) (h4 : Grid w a4 n4 A L C S) :
    Calls Trym.prog 5 #[.string r, .slice a1 n1 c1, .slice a2 n2 c2, .slice a3 n3 c3, .slice a4 n4 c4, .bool bo] w fun e w' => e = .returned (.bool true) ∧ Below w.heap.size w w' := by
  have H1 : Hid (Strs w a1 n1 s1) := h1
  have H2 : Hid (Strs w a2 n2 s2) := h2
  have H3 : Hid (Strs w a3 n3 s3) := h3
  have H4 : Hid (Grid w a4 n4 A L C S) := h4
  clear h1 h2 h3 h4
  have q27 : ∀ (w : World) (r : Option Nat), (binOp .eql 27 (.map r) (.map none)).run Trym.prog w = .ok (.bool r.isNone) w := fun w r => run_eql_map_nil w _ _ _ r Trym.underlying27
  go_enter Trym.func5, Trym.ntmps5
  go_wp2_with fail
  refine (bytes15 r a1 n1 c1 s1 a2 n2 c2 s2 a3 n3 c3 s3 a4 n4 c4 A L C S bo hr hn1 hn2 hn3 hn4 _ H1.out H2.out H3.out H4.out).mono ?_
  rintro x w' ⟨b, rfl, hb, hw⟩
  subst hw
  cases b
  · go_wp2
    go_ret
    exact ⟨rfl, Below.refl _ _⟩
  obtain ⟨t1, t2, t3, t4, hL⟩ := hb rfl
  have HL : Hid (∀ i, i < n4 → L i ≤ 1048576) := hL
  clear hb hL
  go_wp2_with fail
  refine (cloneBytes16 r a1 n1 c1 s1 a2 n2 c2 s2 a3 n3 c3 s3 a4 n4 c4 A L C S hr hn1 hn2 hn3 hn4 _ H1.out H2.out H3.out H4.out).mono ?_
  rintro x w' ⟨z, rfl, ⟨hz, hz'⟩, hw⟩
  subst hw
  by_cases hz2 : 1048576 < z
  · go_wp2_with fail
    go_ret
    exact ⟨rfl, Below.refl _ _⟩
  by_cases hne : n4 = n3
  case neg =>
    have hb : ((n4 : Int) != (n3 : Int)) = true := by simp; omega
    go_wp2_with fail
    go_ret
    exact ⟨rfl, Below.refl _ _⟩
  subst hne
  cases bo with
  | true =>
    go_wp2_with fail
    have bl1 : Below w.heap.size w (w.alloc (.cells #[.string r, .slice a1 n1 c1, .slice a2 n2 c2, .map none] 38)) := (Below.refl _ _).alloc (Nat.le_refl _) _
    generalize (w.alloc (.cells #[.string r, .slice a1 n1 c1, .slice a2 n2 c2, .map none] 38)) = W1 at bl1 ⊢
    refine (zz17 r a1 n1 c1 s1 a2 n2 c2 s2 none 0 (.map []) t1 t2 _ (H1.out.below bl1 (Nat.le_refl _)) (H2.out.below bl1 (Nat.le_refl _)) (fun M hM => by cases hM) (Nat.zero_le _)).mono ?_
    rintro x w2 ⟨a1', c1', a2', c2', m', rfl, g1, g2, bl2, hmm⟩
    obtain rfl : m' = none := by
      rcases hmm with ⟨_, h⟩ | ⟨_, _, _, h, _⟩
      · exact h
      · cases h
    clear hmm
    go_upto_region 11 with fail
    obtain ⟨W2, hW2⟩ : ∃ W, W = w2.alloc (.cells #[.string r, .slice a1' n1 c1', .slice a2' n2 c2', .map none] 38) := ⟨_, rfl⟩
    rw [← hW2]
    have bC : Box W2 w2.heap.size (.string r) (.slice a1' n1 c1') (.slice a2' n2 c2') (.map none) := by rw [hW2]; exact box_new _ _ _ _ _
    have bl3 : Below w.heap.size w W2 := by rw [hW2]; exact (bl1.trans (bl2.mono bl1.size)).alloc (Nat.le_trans bl1.size bl2.size) _
    have S1 : Hid (Strs W2 a1' n1 s1) := by rw [hW2]; exact g1.strs.alloc _
    have S2 : Hid (Strs W2 a2' n2 s2) := by rw [hW2]; exact g2.strs.alloc _
    have N1 : Hid (NilOk a1' n1) := g1.nilOk
    have N2 : Hid (NilOk a2' n2) := g2.nilOk
    have Bl : Hid (Below w.heap.size w W2) := bl3
    clear hW2 g1 g2 bl1 bl2 bl3
    generalize w2.heap.size = Cb at *
    have e0 := bC.c0
    have e1 := bC.c1
    have e2 := bC.c2
    have e3 := bC.c3
    go_wp2_with fail
    refine (same18 a1' n1 c1' a1 c1 s1 hn1 _ S1.out (H1.out.below Bl.out (Nat.le_refl _)) N1.out).mono ?_
    rintro x w3 ⟨rfl, q1, rfl⟩
    go_wp2_with fail
    refine (same18 a2' n2 c2' a2 c2 s2 hn2 _ (S2.out.drewN _) ((H2.out.below Bl.out (Nat.le_refl _)).drewN _) N2.out).mono ?_
    rintro x w3 ⟨rfl, q2, rfl⟩
    go_wp2_with fail
    go_ret
    exact ⟨rfl, bdrewN Bl.out _⟩
  | false =>
    go_wp2_with fail
    have bl1 : Below w.heap.size w (w.alloc (.cells #[.string r, .slice a1 n1 c1, .slice a2 n2 c2, .map none] 38)) := (Below.refl _ _).alloc (Nat.le_refl _) _
    have bx1 : Box (w.alloc (.cells #[.string r, .slice a1 n1 c1, .slice a2 n2 c2, .map none] 38)) w.heap.size (.string r) (.slice a1 n1 c1) (.slice a2 n2 c2) (.map none) := box_new _ _ _ _ _
    generalize (w.alloc (.cells #[.string r, .slice a1 n1 c1, .slice a2 n2 c2, .map none] 38)) = W1 at bl1 bx1 ⊢
    have H3' := H3.out.below bl1 (Nat.le_refl _)
    have H4' : Grid W1 a4 n4 A L C S := H4.out.below bl1 (Nat.le_refl _)
    refine (limitsMap9 a3 n4 c3 s3 a4 n4 c4 A L C S t4 (Nat.le_refl _) hn4 _ H3' H4').mono ?_
    rintro x w2 ⟨rfl, hown2, bl2⟩
    have bx2 : Box w2 w.heap.size (.string r) (.slice a1 n1 c1) (.slice a2 n2 c2) (.map none) := (bl2.block _ bx1.lt).trans bx1
    have hM : w.heap.size < W1.heap.size := bx1.lt
    have Bl2 : Hid (Below w.heap.size w w2) := bl1.trans (bl2.mono bl1.size)
    have Hown : Hid (w2.ownsMap Trym.prog 9 slcE W1.heap.size n4 (fill s3 (fun i => .slice (A i) (L i) (C i)) n4)) := hown2
    clear hown2 bl1 bl2 bx1 H3' H4'
    generalize W1.heap.size = M at *
    have e0 := bx2.c0
    have e1 := bx2.c1
    have e2 := bx2.c2
    have e3 := bx2.c3
    have ef := bx2.fz
    go_wp2_with fail
    have bx3 : Box (w2.setCell ⟨w.heap.size, 3, none⟩ (.map (some M))) w.heap.size (.string r) (.slice a1 n1 c1) (.slice a2 n2 c2) (.map (some M)) := bx2.set3 _
    have bl3 : Below w.heap.size w (w2.setCell ⟨w.heap.size, 3, none⟩ (.map (some M))) := Bl2.out.setCell (Nat.le_refl _) _
    have ow3 : (w2.setCell ⟨w.heap.size, 3, none⟩ (.map (some M))).ownsMap Trym.prog 9 slcE M n4 (fill s3 (fun i => .slice (A i) (L i) (C i)) n4) := Hown.out.setCell (show M ≠ w.heap.size by omega) _
    clear e0 e1 e2 e3 ef bx2 Bl2 Hown
    generalize (w2.setCell ⟨w.heap.size, 3, none⟩ (.map (some M))) = W3 at bx3 bl3 ow3 ⊢
    clear w2
    have hreads : Reads W3 (fill s3 (fun i => .slice (A i) (L i) (C i)) n4) := fun kl hkl => by
      obtain ⟨j, hj, hz⟩ := fill_at s3 _ n4 kl hkl
      obtain ⟨b4, off4, _, hc4⟩ := H4.out
      exact ⟨A j, L j, C j, S j, hz, HL.out j hj, (hc4 j hj).2.2.below bl3 (Nat.le_refl _)⟩
    have hkeys := fill_has s3 (fun i => .slice (A i) (L i) (C i)) n4
    generalize fill s3 (fun i => .slice (A i) (L i) (C i)) n4 = D0 at ow3 hreads hkeys
    refine (zz17 r a1 n1 c1 s1 a2 n2 c2 s2 (some M) n4 D0 t1 t2 _ (H1.out.below bl3 (Nat.le_refl _)) (H2.out.below bl3 (Nat.le_refl _)) (fun M' hM' => by cases hM'; exact ⟨ow3, hreads⟩) t4).mono ?_
    rintro x w4 ⟨a1', c1', a2', c2', m', rfl, g1, g2, bl4, hmm⟩
    obtain ⟨M', N, D', rfl, hM', ow4, hsame, hcopy⟩ : ∃ M' N D', m' = some M' ∧ W3.heap.size ≤ M' ∧ w4.ownsMap Trym.prog 9 slcE M' N D' ∧ (∀ kl, has D' kl = has D0 kl) ∧ ∀ kl, has D0 kl = true → ∃ a n c s a' c', (∀ z, D0.atKey kl z = .held (.slice a n c)) ∧ (∀ z, D'.atKey kl z = .held (.slice a' n c')) ∧ n ≤ 1048576 ∧ Strs w4 a n s ∧ Fresh w4 W3.heap.size w4.heap.size a' n s := by
      rcases hmm with ⟨h, _⟩ | ⟨M', N, D', _, h4, h5, h6, h7⟩
      · cases h
      · exact ⟨M', N, D', h4, h5, h6, h7⟩
    clear hmm
    go_upto_region 11 with fail
    obtain ⟨W5, hW5⟩ : ∃ W, W = w4.alloc (.cells #[.string r, .slice a1' n1 c1', .slice a2' n2 c2', .map (some M')] 38) := ⟨_, rfl⟩
    rw [← hW5]
    have bC : Box W5 w4.heap.size (.string r) (.slice a1' n1 c1') (.slice a2' n2 c2') (.map (some M')) := by rw [hW5]; exact box_new _ _ _ _ _
    have bB : Box W5 w.heap.size (.string r) (.slice a1 n1 c1) (.slice a2 n2 c2) (.map (some M)) := by
      have : Box w4 w.heap.size (.string r) (.slice a1 n1 c1) (.slice a2 n2 c2) (.map (some M)) := (bl4.block _ bx3.lt).trans bx3
      rw [hW5]; exact this.alloc _
    have Bl : Hid (Below w.heap.size w W5) := by
      have : Below w.heap.size w W5 := by rw [hW5]; exact (bl3.trans (bl4.mono bl3.size)).alloc (Nat.le_trans bl3.size bl4.size) _
      exact this
    have S1 : Hid (Strs W5 a1' n1 s1) := by rw [hW5]; exact g1.strs.alloc _
    have S2 : Hid (Strs W5 a2' n2 s2) := by rw [hW5]; exact g2.strs.alloc _
    have N1 : Hid (NilOk a1' n1) := g1.nilOk
    have N2 : Hid (NilOk a2' n2) := g2.nilOk
    have owM : W5.ownsMap Trym.prog 9 slcE M n4 D0 := by rw [hW5]; exact (owns_below ow3 bl4 ow3.lt).alloc _
    have owM' : W5.ownsMap Trym.prog 9 slcE M' N D' := by rw [hW5]; exact ow4.alloc _
    have hsz : Maps.size D' = Maps.size D0 := size_of_has (owM'.canon law9) (owM.canon law9) hsame
    have Hcopy : Hid (∀ kl, has D0 kl = true → ∃ a n c s a' c', (∀ z, D0.atKey kl z = .held (.slice a n c)) ∧ (∀ z, D'.atKey kl z = .held (.slice a' n c')) ∧ n ≤ 1048576 ∧ Strs W5 a n s ∧ Strs W5 a' n s ∧ NilOk a' n) := by
      intro kl hkl
      obtain ⟨a, n, c, s, a', c', q1, q2, q3, q4, q5⟩ := hcopy kl hkl
      refine ⟨a, n, c, s, a', c', q1, q2, q3, ?_, ?_, q5.nilOk⟩
      · rw [hW5]; exact q4.alloc _
      · rw [hW5]; exact q5.strs.alloc _
    have Hsame : Hid (∀ kl, has D' kl = has D0 kl) := hsame
    have Hkeys : Hid (∀ i, i < n4 → has D0 (key (s3 i)) = true) := hkeys
    clear hW5 g1 g2 bl3 bl4 bx3 ow3 ow4 hreads hcopy hsame hkeys hM'
    generalize w4.heap.size = Cb at *
    have e0 := bC.c0
    have e1 := bC.c1
    have e2 := bC.c2
    have e3 := bC.c3
    have f3 := bB.c3
    go_wp2_with fail
    refine (same18 a1' n1 c1' a1 c1 s1 hn1 _ S1.out (H1.out.below Bl.out (Nat.le_refl _)) N1.out).mono ?_
    rintro x w5 ⟨rfl, q1, rfl⟩
    go_wp2_with fail
    refine (same18 a2' n2 c2' a2 c2 s2 hn2 _ (S2.out.drewN _) ((H2.out.below Bl.out (Nat.le_refl _)).drewN _) N2.out).mono ?_
    rintro x w5 ⟨rfl, q2, rfl⟩
    go_wp2_with (first
      | (at_len; refine wpList_len_own _ rfl (.tmp 73) 27 rfl 9 22 Trym.underlying27 slcE M' N D' rfl owM' ?_)
      | (at_len; refine wpList_len_own _ rfl (.tmp 76) 27 rfl 9 22 Trym.underlying27 slcE M n4 D0 rfl owM ?_)
      | go_in)
    clear hsz
    obtain ⟨b3, off3, ha3, hc3⟩ := H3.out.below Bl.out (Nat.le_refl _)
    have Ha3 : Hid (0 < n4 → a3 = some ⟨b3, off3, none⟩) := ha3
    have Hc3 : Hid (∀ i, i < n4 → W5.cell? ⟨b3, off3 + i, none⟩ = some (.string (s3 i)) ∧ (s3 i).size ≤ 9223372036854775807) := hc3
    have HM : Hid (W5.ownsMap Trym.prog 9 slcE M n4 D0) := owM
    have HM' : Hid (W5.ownsMap Trym.prog 9 slcE M' N D') := owM'
    clear ha3 hc3 owM owM' e0 e1 e2 q27
    go_loopw [15] (fun i wr => ∃ k m : Nat, k ≤ n4 ∧ i = .int .i64 k ∧ wr = W5.drewN m) (fun i _ => n4 - (intOf i).toNat)
    case atStart => exact ⟨0, q1 + q2, Nat.zero_le _, rfl, rfl⟩
    case round =>
      obtain ⟨k, m, hk, rfl, rfl⟩ := hrel
      by_cases hlt : k < n4
      · obtain rfl := Ha3.out (by omega)
        obtain ⟨g1, g2⟩ := Hc3.out k hlt
        obtain ⟨a, n, c, s, a', c', p1, p2, p3, p4, p5, p6⟩ := Hcopy.out (key (s3 k)) (Hkeys.out k hlt)
        have hl1 : ∀ j, (Instr.lookup 27 (.map (some M')) (.string (s3 k)) true).run Trym.prog (W5.drewN j) = .ok (.tuple #[.slice a' n c', .bool true]) (W5.drewN j) := fun j => by
          have := (look_slc (w := W5.drewN j) HM'.out g2 (p2 _)).1
          rw [Hsame.out, Hkeys.out k hlt] at this
          exact this
        have hl2 : ∀ j, (Instr.lookup 27 (.map (some M)) (.string (s3 k)) false).run Trym.prog (W5.drewN j) = .ok (.slice a n c) (W5.drewN j) := fun j => (look_slc (w := W5.drewN j) HM.out g2 (p1 _)).2
        have hkz : (k : Int) < (n4 : Int) := by omega
        have P4 : Hid (Strs W5 a n s) := p4
        have P5 : Hid (Strs W5 a' n s) := p5
        have P6 : Hid (NilOk a' n) := p6
        clear p1 p2 p4 p5 p6
        generalize s3 k = K at *
        go_wp2
        go_quiet (fail)
        go_wp2
        go_quiet ((go_at_call 18; exact quiet_at (same18 a' n c' a c s (by omega) _ (P5.out.drewN _) (P4.out.drewN _) P6.out)))
        go_wp2
        go_roundw
        case rel => exact ⟨k + 1, _, by omega, by go_num, rfl⟩
        case measure => simp [intOf]; omega
      · go_wp2
        go_ret
        exact ⟨rfl, bdrewN Bl.out _⟩
end Go.Proofs.Qxb6600978aMods
