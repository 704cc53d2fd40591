import Derived.Test.Qxb6600978aModsClone
import Derived.Test.Qxb6600978aModsFill
import Derived.Deep.Cut
namespace Go.Proofs.Qxb6600978aMods
open Go.RowKit Go.Maps

/-- Is v among the n strings? -/
def conB (s : Nat → ByteArray) (n : Nat) (v : ByteArray) : Bool := (List.range n).any fun i => (s i).toList == v.toList
theorem con_yes {s : Nat → ByteArray} {n : Nat} {v : ByteArray} (k : Nat) (hk : k < n) (h : ((s k).toList == v.toList) = true) : conB s n v = true := by
  unfold conB
  rw [List.any_eq_true]
  exact ⟨k, List.mem_range.2 hk, h⟩
theorem con_no {s : Nat → ByteArray} {n : Nat} {v : ByteArray} (h : ∀ i, i < n → ((s i).toList == v.toList) = false) : conB s n v = false := by
  unfold conB
  rw [List.any_eq_false]
  intro i hi
  rw [h i (List.mem_range.1 hi)]
  simp
theorem con_inv {s : Nat → ByteArray} {n : Nat} {v : ByteArray} (h : conB s n v = true) : ∃ k, k < n ∧ ((s k).toList == v.toList) = true := by
  unfold conB at h
  rw [List.any_eq_true] at h
  obtain ⟨k, hk, h⟩ := h
  exact ⟨k, List.mem_range.1 hk, h⟩
theorem ret_bool {a b : Bool} (h : a = b) : Ending.returned (.bool a) = .returned (.bool b) := by rw [h]

set_option maxHeartbeats 400000 in
theorem contains23 (a : Option Addr) (n c : Nat) (s : Nat → ByteArray) (v : ByteArray) (hn : n ≤ 9223372036854775807) (w : World) (hs : Strs w a n s) :
    Calls Trym.prog 23 #[.slice a n c, .string v] w fun e w' => e = .returned (.bool (conB s n v)) ∧ w' = w := by
  obtain ⟨b, off, ha, hc⟩ := hs
  have Ha : Hid (0 < n → a = some ⟨b, off, none⟩) := ha
  have Hc : Hid (∀ i, i < n → w.cell? ⟨b, off + i, none⟩ = some (.string (s i)) ∧ (s i).size ≤ 9223372036854775807) := hc
  clear ha hc
  go_enter Trym.func23, Trym.ntmps23
  go_wp2
  go_loop [9] (fun i => ∃ k : Nat, k ≤ n ∧ i = .int .i64 k ∧ Hid (∀ j, j < k → ((s j).toList == v.toList) = false)) (fun i => n - (intOf i).toNat)
  case atStart => exact ⟨0, Nat.zero_le _, rfl, fun j hj => absurd hj (Nat.not_lt_zero _)⟩
  case round =>
    obtain ⟨k, hk, rfl, hz⟩ := hrel
    by_cases hlt : k < n
    · obtain rfl := Ha.out (by omega)
      obtain ⟨g1, g2⟩ := Hc.out k hlt
      cases hq : ((s k).toList == v.toList)
      · go_wp2
        go_round
        case rel =>
          refine ⟨k + 1, by omega, by go_num, fun j hj => ?_⟩
          by_cases e : j = k
          · subst e; exact hq
          · exact hz.out j (by omega)
        case measure => simp [intOf]; omega
      · go_wp2
        go_ret
        exact ⟨ret_bool (con_yes k hlt hq).symm, rfl⟩
    · go_wp2
      go_ret
      exact ⟨ret_bool (con_no (fun i hi => hz.out i (by omega))).symm, rfl⟩

/-- WHAT A MAP OF LIMITS SAYS: at each key nothing, or n strings. -/
def Lims (w : World) (m : Option Nat) (Lim : Lit → Option (Nat × (Nat → ByteArray))) : Prop :=
  (m = none ∧ ∀ kl, Lim kl = none) ∨ ∃ B N D, m = some B ∧ w.ownsMap Trym.prog 9 slcE B N D ∧
    ∀ kl, (Lim kl = none → has D kl = false) ∧ ∀ n s, Lim kl = some (n, s) → has D kl = true ∧ n ≤ 2097152 ∧ ∃ a c, (∀ z, D.atKey kl z = .held (.slice a n c)) ∧ Strs w a n s
theorem Lims.below {w w' : World} {B : Nat} {m : Option Nat} {Lim : Lit → Option (Nat × (Nat → ByteArray))} (h : Lims w m Lim) (hb : Below B w w') (hB : w.heap.size ≤ B) : Lims w' m Lim := by
  rcases h with h | ⟨b, N, D, rfl, ho, hk⟩
  · exact .inl h
  · refine .inr ⟨b, N, D, rfl, owns_below ho hb (Nat.lt_of_lt_of_le ho.lt hB), fun kl => ⟨(hk kl).1, fun n s he => ?_⟩⟩
    obtain ⟨h1, h2, a, c, h3, h4⟩ := (hk kl).2 n s he
    exact ⟨h1, h2, a, c, h3, h4.below hb hB⟩
/-- A look-up among the limits. -/
theorem Lims.look {w : World} {m : Option Nat} {Lim : Lit → Option (Nat × (Nat → ByteArray))} (h : Lims w m Lim) {k : ByteArray} (hk : k.size ≤ 9223372036854775807) :
    (Lim (key k) = none ∧ ∃ p l c, (Instr.lookup 27 (.map m) (.string k) true).run Trym.prog w = .ok (.tuple #[.slice p l c, .bool false]) w) ∨
    ∃ n s p c, Lim (key k) = some (n, s) ∧ (Instr.lookup 27 (.map m) (.string k) true).run Trym.prog w = .ok (.tuple #[.slice p n c, .bool true]) w ∧ n ≤ 2097152 ∧ Strs w p n s := by
  rcases h with ⟨rfl, hn⟩ | ⟨B, N, D, rfl, ho, hk'⟩
  · exact .inl ⟨hn _, none, 0, 0, by have := look_nil (P := Trym.prog) (w := w) true law9 Trym.underlying27 (zero22 w) (key_of hk); simpa using this⟩
  · cases he : Lim (key k) with
    | none =>
      have hh := (hk' (key k)).1 he
      have := (look_slc ho hk (atKey_of_not_has hh _)).1
      rw [hh] at this
      exact .inl ⟨rfl, none, 0, 0, this⟩
    | some q =>
      obtain ⟨n, s⟩ := q
      obtain ⟨h1, h2, a, c, h3, h4⟩ := (hk' (key k)).2 n s he
      have := (look_slc ho hk (h3 _)).1
      rw [h1] at this
      exact .inr ⟨n, s, a, c, rfl, this, h2, h4⟩

/-- The limit at kl, if there is one, lists the value that DV holds there. -/
def OkAt (DV : DataW Value) (Lim : Lit → Option (Nat × (Nat → ByteArray))) (kl : Lit) : Prop :=
  ∀ n s, Lim kl = some (n, s) → ∃ v, has DV kl = true ∧ DV.atKey kl (.held (.string ByteArray.empty)) = .held (.string v) ∧ conB s n v = true
/-- WHAT limitsMet SAYS. -/
def MetOut (w : World) (DA DV : DataW Value) (Lim : Lit → Option (Nat × (Nat → ByteArray))) (e : Ending) (w' : World) : Prop :=
  ∃ b : Bool, e = .returned (.bool b) ∧ (b = true ↔ ∀ kl, has DA kl = true → OkAt DV Lim kl) ∧ Below w.heap.size w w'
theorem MetOut.no {w w' : World} {DA DV : DataW Value} {Lim : Lit → Option (Nat × (Nat → ByteArray))} (kl : Lit) (h : has DA kl = true) (hn : ¬ OkAt DV Lim kl) (hb : Below w.heap.size w w') : MetOut w DA DV Lim (.returned (.bool false)) w' :=
  ⟨false, rfl, ⟨fun h => Bool.noConfusion h, fun h' => absurd (h' kl h) hn⟩, hb⟩
theorem MetOut.yes {w w' : World} {DA DV : DataW Value} {Lim : Lit → Option (Nat × (Nat → ByteArray))} (h : ∀ kl, has DA kl = true → OkAt DV Lim kl) (hb : Below w.heap.size w w') : MetOut w DA DV Lim (.returned (.bool true)) w' :=
  ⟨true, rfl, ⟨fun _ => h, fun _ => rfl⟩, hb⟩

/-- THE LOOP OF limitsMet UNDER WAY. -/
structure Going (w : World) (m : Option Nat) (A R NA : Nat) (DA DV : DataW Value) (Lim : Lit → Option (Nat × (Nat → ByteArray))) (W : World) (left : Lit → Bool) (cnt : Nat) : Prop where
  rng : W.ranges Trym.prog 9 strE A R NA DA left cnt
  box : Box W w.heap.size (.string ⟨#[]⟩) (.slice none 0 0) (.slice none 0 0) (.map m)
  bel : Below w.heap.size w W
  seen : ∀ kl, has DA kl = true → left kl = false → OkAt DV Lim kl
theorem Going.step {w : World} {m : Option Nat} {A R NA : Nat} {DA DV : DataW Value} {Lim : Lit → Option (Nat × (Nat → ByteArray))} {W : World} {left : Lit → Bool} {cnt : Nat} (h : Going w m A R NA DA DV Lim W left cnt) (hR : w.heap.size < R)
    {k : ByteArray} {w1 : World} {cnt1 : Nat} (hrg1 : w1.ranges Trym.prog 9 strE A R NA DA (fun z => left z && !z.sameKey (key k)) cnt1) (hg1 : W.grownBy w1 (some R)) (hok : OkAt DV Lim (key k)) :
    Going w m A R NA DA DV Lim w1 (fun z => left z && !z.sameKey (key k)) cnt1 := by
  refine ⟨hrg1, h.box.kept hg1 (fun e => by have := Option.some.inj e; omega), h.bel.grown hg1 h.bel.size (fun j hj => by cases hj; omega), fun q hq hl => ?_⟩
  by_cases e : q = key k
  · subst e; exact hok
  · refine h.seen q hq ?_
    simpa [sameKey_ne e] using hl

set_option maxHeartbeats 1000000 in
theorem met20 (Rb A NA : Nat) (DA : DataW Value) (m : Option Nat) (Lim : Lit → Option (Nat × (Nat → ByteArray))) (V NV : Nat) (DV : DataW Value) (w : World)
    (hR : w.cell? ⟨Rb, 4, none⟩ = some (.map (some A))) (hA : w.ownsMap Trym.prog 9 strE A NA DA) (hV : w.ownsMap Trym.prog 9 strE V NV DV) (hL : Lims w m Lim) :
    Calls Trym.prog 20 #[.pointer (some ⟨Rb, 0, none⟩), .agg #[.string ⟨#[]⟩, .slice none 0 0, .slice none 0 0, .map m], .map (some V)] w (MetOut w DA DV Lim) := by
  have HV : Hid (w.ownsMap Trym.prog 9 strE V NV DV) := hV
  have HL : Hid (Lims w m Lim) := hL
  clear hV hL
  go_enter Trym.func20, Trym.ntmps20
  go_upto_region 1 with fail
  obtain ⟨W1, hW1⟩ : ∃ W, W = w.alloc (.cells #[.string ⟨#[]⟩, .slice none 0 0, .slice none 0 0, .map m] 38) := ⟨_, rfl⟩
  rw [← hW1]
  have b1 : Box W1 w.heap.size (.string ⟨#[]⟩) (.slice none 0 0) (.slice none 0 0) (.map m) := by rw [hW1]; exact box_new _ _ _ _ _
  have bl1 : Below w.heap.size w W1 := by rw [hW1]; exact (Below.refl _ _).alloc (Nat.le_refl _) _
  have e4 : W1.cell? ⟨Rb, 4, none⟩ = some (.map (some A)) := (bl1.cell (p := ⟨Rb, 4, none⟩) (World.block_lt_of_cell? _ _ hR)).trans hR
  have oA : W1.ownsMap Trym.prog 9 strE A NA DA := by rw [hW1]; exact hA.alloc _
  have hlt1 := b1.lt
  clear hW1 hR hA
  go_wp2_with (first
    | (at_range; refine wpList_range_own _ rfl (.tmp 15) 29 rfl 9 9 law9 Trym.underlying29 strE A NA DA rfl oA ?_; intro w2 hrg2 hg2 hs2)
    | go_in)
  go_frame
  have hI : Going w m A W1.heap.size NA DA DV Lim w2 (has DA) (Maps.size DA) := ⟨hrg2, b1.kept hg2 (by simp), bl1.grown hg2 bl1.size (fun j hj => by cases hj), fun kl h1 h2 => by rw [h1] at h2; cases h2⟩
  clear hrg2 hg2 hs2 b1 bl1 e4 oA
  generalize W1.heap.size = R at *
  go_loopw [7] (fun _ wr => ∃ (left : Lit → Bool) (cnt : Nat), Going w m A R NA DA DV Lim wr left cnt) (fun _ wr => wr.rangeLeft A R)
  case atStart => exact ⟨_, _, hI⟩
  case round =>
    clear hI
    obtain ⟨left, cnt, hI⟩ := hrel
    have hrg := hI.rng
    go_wp2_with (first
      | (at_next; refine next_str _ rfl _ rfl A R NA DA left cnt rfl hrg ?_ ?_)
      | go_in)
    · intro hc0 hl0
      have HI : Hid (Going w m A R NA DA DV Lim wr left cnt) := hI
      clear hI hrg
      go_wp2
      go_ret
      exact MetOut.yes (fun kl h => HI.out.seen kl h (hl0 kl)) HI.out.bel
    · intro k kv w1 cnt1 hk hlk hhas hrg1 hlt hg1 hs1 hen
      have bl : Below w.heap.size w w1 := hI.bel.grown hg1 hI.bel.size (fun j hj => by cases hj; omega)
      have e3 := (hI.box.kept hg1 (fun e => by have := Option.some.inj e; omega)).c3
      have HB : Hid (Below w.heap.size w w1) := bl
      have HI : Hid (Going w m A R NA DA DV Lim wr left cnt) := hI
      clear hI bl
      rcases (HL.out.below HB.out (Nat.le_refl _)).look hk with ⟨hnone, p, l, c, hrun⟩ | ⟨n, s, p, c, hsome, hrun, hn, hst⟩
      · -- no limit
        have hI2 := HI.out.step hlt1 hrg1 hg1 (fun n s he => by rw [hnone] at he; cases he)
        have HI2 : Hid (Going w m A R NA DA DV Lim w1 (fun z => left z && !z.sameKey (key k)) cnt1) := hI2
        have Hm : Hid (w1.rangeLeft A R < wr.rangeLeft A R) := by rw [hrg1.left_eq, hrg.left_eq]; exact hlt
        clear hI2 hrg hrg1 hg1 hnone
        go_wp2
        exact ⟨⟨_, _, HI2.out⟩, Hm.out⟩
      · -- a limit
        obtain ⟨v, hrunV, hatV⟩ := look_str (owns_below HV.out HB.out HV.out.lt) hk
        have Hst : Hid (Strs w1 p n s) := hst
        have Hhas : Hid (has DA (key k) = true) := hhas
        have Hsome : Hid (Lim (key k) = some (n, s)) := hsome
        have HatV : Hid (DV.atKey (key k) (.held (.string ByteArray.empty)) = .held (.string v)) := hatV
        clear hst hsome hatV hhas
        cases hg : has DV (key k)
        · -- no value
          rw [hg] at hrunV
          have Hno : Hid (¬ OkAt DV Lim (key k)) := fun h => by
            obtain ⟨v', h1, _⟩ := h n s Hsome.out
            rw [hg] at h1; cases h1
          clear hrg hrg1 hg1
          go_wp2
          go_ret
          exact MetOut.no (key k) Hhas.out Hno.out HB.out
        · rw [hg] at hrunV
          cases hcon : conB s n v
          · -- a value that is not listed
            have Hno : Hid (¬ OkAt DV Lim (key k)) := fun h => by
              obtain ⟨v', h1, h2, h3⟩ := h n s Hsome.out
              have e := h2.symm.trans HatV.out
              simp only [DataW.held.injEq, Value.string.injEq] at e
              subst e
              rw [hcon] at h3; cases h3
            clear hrg hrg1 hg1
            go_wp2_with fail
            refine (contains23 p n c s v (by omega) _ Hst.out).mono ?_
            rintro x w3 ⟨rfl, hw3⟩
            rw [hw3, hcon]
            clear hw3 w3
            go_wp2_with fail
            go_ret
            exact MetOut.no (key k) Hhas.out Hno.out HB.out
          · -- a value that is listed
            have HI2 : Hid (Going w m A R NA DA DV Lim w1 (fun z => left z && !z.sameKey (key k)) cnt1) := HI.out.step hlt1 hrg1 hg1 (fun n' s' he => by
              have e := he.symm.trans Hsome.out
              simp only [Option.some.injEq, Prod.mk.injEq] at e
              obtain ⟨rfl, rfl⟩ := e
              exact ⟨v, hg, HatV.out, hcon⟩)
            have Hm : Hid (w1.rangeLeft A R < wr.rangeLeft A R) := by rw [hrg1.left_eq, hrg.left_eq]; exact hlt
            clear hrg hrg1 hg1
            go_wp2_with fail
            refine (contains23 p n c s v (by omega) _ Hst.out).mono ?_
            rintro x w3 ⟨rfl, hw3⟩
            rw [hw3, hcon]
            clear hw3 w3
            go_wp2_with fail
            exact ⟨⟨_, _, HI2.out⟩, Hm.out⟩

/-- (&route{attributes: ..}).limitsMet(Grant{Limits: ..}, values) -/
theorem zz11 (A NA : Nat) (DA : DataW Value) (m : Option Nat) (Lim : Lit → Option (Nat × (Nat → ByteArray))) (V NV : Nat) (DV : DataW Value) (w : World)
    (hA : w.ownsMap Trym.prog 9 strE A NA DA) (hV : w.ownsMap Trym.prog 9 strE V NV DV) (hL : Lims w m Lim) :
    Calls Trym.prog 11 #[.map (some A), .map m, .map (some V)] w (MetOut w DA DV Lim) := by
  have HA : Hid (w.ownsMap Trym.prog 9 strE A NA DA) := hA
  have HV : Hid (w.ownsMap Trym.prog 9 strE V NV DV) := hV
  have HL : Hid (Lims w m Lim) := hL
  clear hA hV hL
  go_enter Trym.func11, Trym.ntmps11
  go_wp2_with fail
  have bl : Below w.heap.size w (w.alloc (.cells #[.bool false, .string ⟨#[]⟩, .slice none 0 0, .bool false, .map (some A), .map none] 48)) := (Below.refl _ _).alloc (Nat.le_refl _) _
  have hc : (w.alloc (.cells #[.bool false, .string ⟨#[]⟩, .slice none 0 0, .bool false, .map (some A), .map none] 48)).cell? ⟨w.heap.size, 4, none⟩ = some (.map (some A)) := by simp
  generalize w.alloc (.cells #[.bool false, .string ⟨#[]⟩, .slice none 0 0, .bool false, .map (some A), .map none] 48) = W at bl hc ⊢
  refine (met20 w.heap.size A NA DA m Lim V NV DV _ hc (owns_below HA.out bl HA.out.lt) (owns_below HV.out bl HV.out.lt) (HL.out.below bl (Nat.le_refl _))).mono ?_
  rintro x w2 ⟨b, rfl, hb, bl2⟩
  have H : Hid (MetOut w DA DV Lim (.returned (.bool b)) w2) := ⟨b, rfl, hb, bl.trans (bl2.mono bl.size)⟩
  clear hb bl bl2 hc
  go_wp2_with fail
  go_ret
  exact H.out
end Go.Proofs.Qxb6600978aMods
