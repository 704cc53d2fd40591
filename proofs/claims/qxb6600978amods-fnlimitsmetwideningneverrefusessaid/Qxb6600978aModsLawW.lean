import Derived.Test.Qxb6600978aModsWide
import Derived.Test.Qxb6600978aModsBytesW
namespace Go.Proofs.Qxb6600978aMods
open Go.RowKit Go.Maps

theorem Grid.under {w w' : World} {B : Nat} {a : Option Addr} {n : Nat} {A : Nat → Option Addr} {L C : Nat → Nat} {S : Nat → Nat → ByteArray} (h : Grid w a n A L C S) (hb : Below B w w') (hB : w.heap.size ≤ B) : Grid w' a n A L C S := by
  obtain ⟨b, off, ha, hc⟩ := h
  exact ⟨b, off, ha, fun i hi => ⟨(hb.cell (p := ⟨b, off + i, none⟩) (Nat.lt_of_lt_of_le (World.block_lt_of_cell? _ _ (hc i hi).1) hB)).trans (hc i hi).1, (hc i hi).2.1, (hc i hi).2.2.below hb hB⟩⟩

/-- The route's attributes and the values stand; nothing that was there has turned. -/
structure St (w : World) (A NA : Nat) (DA : DataW Value) (V NV : Nat) (DV : DataW Value) (W : World) : Prop where
  a : W.ownsMap Trym.prog 9 strE A NA DA
  v : W.ownsMap Trym.prog 9 strE V NV DV
  bel : Below w.heap.size w W
theorem St.next {w : World} {A NA : Nat} {DA : DataW Value} {V NV : Nat} {DV : DataW Value} {W W' : World} (h : St w A NA DA V NV DV W) (hb : Below W.heap.size W W') : St w A NA DA V NV DV W' :=
  ⟨owns_below h.a hb h.a.lt, owns_below h.v hb h.v.lt, h.bel.trans (hb.mono h.bel.size)⟩

theorem strs_nil (w : World) (s : Nat → ByteArray) : Strs w none 0 s := ⟨0, 0, fun h => absurd h (Nat.lt_irrefl _), fun _ hi => absurd hi (Nat.not_lt_zero _)⟩
theorem grid_nil (w : World) (A : Nat → Option Addr) (L C : Nat → Nat) (S : Nat → Nat → ByteArray) : Grid w none 0 A L C S := ⟨0, 0, fun h => absurd h (Nat.lt_irrefl _), fun _ hi => absurd hi (Nat.not_lt_zero _)⟩
theorem Grid.row {w : World} {a : Option Addr} {n : Nat} {A : Nat → Option Addr} {L C : Nat → Nat} {S : Nat → Nat → ByteArray} (h : Grid w a n A L C S) {i : Nat} (hi : i < n) : Strs w (A i) (L i) (S i) := by
  obtain ⟨b, off, _, hc⟩ := h
  exact (hc i hi).2.2

set_option maxRecDepth 100000 in
set_option maxHeartbeats 8000000 in
theorem lawW (a1 : Option Addr) (n1 c1 : Nat) (s1 : Nat → ByteArray) (a2 : Option Addr) (n2 c2 : Nat) (ks : Nat → ByteArray) (a4 : Option Addr) (n4 c4 : Nat) (A : Nat → Option Addr) (L C : Nat → Nat) (S : Nat → Nat → ByteArray) (a3 : Option Addr) (n3 c3 : Nat) (s3 : Nat → ByteArray) (a5 : Option Addr) (n5 c5 : Nat) (s5 : Nat → ByteArray) (at_ : Int) (wd : ByteArray)
    (hn1 : n1 ≤ 9223372036854775807) (hn2 : n2 ≤ 9223372036854775807) (hn4 : n4 ≤ 9223372036854775807) (hn3 : n3 ≤ 9223372036854775807) (hn5 : n5 ≤ 9223372036854775807) (hwd : wd.size ≤ 9223372036854775807) (w : World)
    (h1 : Strs w a1 n1 s1) (h2 : Strs w a2 n2 ks) (h4 : Grid w a4 n4 A L C S) (h3 : Strs w a3 n3 s3) (h5 : Strs w a5 n5 s5) :
    Calls Trym.prog 4 #[.slice a1 n1 c1, .slice a2 n2 c2, .slice a4 n4 c4, .slice a3 n3 c3, .slice a5 n5 c5, .int .i64 at_, .string wd] w fun e w' => e = .returned (.bool true) ∧ Below w.heap.size w w' := by
  have H1 : Hid (Strs w a1 n1 s1) := h1
  have H2 : Hid (Strs w a2 n2 ks) := h2
  have H3 : Hid (Strs w a3 n3 s3) := h3
  have H4 : Hid (Grid w a4 n4 A L C S) := h4
  have H5 : Hid (Strs w a5 n5 s5) := h5
  clear h1 h2 h3 h4 h5
  go_enter Trym.func4, Trym.ntmps4
  go_wp2_with fail
  refine (bytes13 a1 n1 c1 s1 a2 n2 c2 ks a4 n4 c4 A L C S a3 n3 c3 s3 a5 n5 c5 s5 at_ wd hn1 hn2 hn4 hn3 hn5 hwd _ H1.out H2.out H4.out H3.out H5.out).mono ?_
  rintro x w' ⟨b, rfl, hb, hw⟩
  subst hw
  cases b
  · go_wp2
    go_ret
    exact ⟨rfl, Below.refl _ _⟩
  obtain ⟨t1, t2, t4, hL, t3, t5, t9⟩ := hb rfl
  have HL : Hid (∀ i, i < n4 → L i ≤ 1048576) := hL
  clear hb hL
  go_wp2_with fail
  refine (limitsBytes8 a1 n1 c1 s1 a2 n2 c2 ks a4 n4 c4 A L C S a3 n3 c3 s3 a5 n5 c5 s5 hn1 hn2 hn4 hn3 hn5 _ H1.out H2.out H4.out H3.out H5.out).mono ?_
  rintro x w' ⟨z, rfl, ⟨hz, hz'⟩, hw⟩
  subst hw
  go_wp2_with fail
  refine (add14 z (wd.size : Int) hz hz' (by omega) (by omega) _).mono ?_
  rintro x w' ⟨z2, rfl, ⟨hz2, hz2'⟩, hw⟩
  subst hw
  by_cases hz3 : 1048576 < z2
  · go_wp2_with fail
    go_ret
    exact ⟨rfl, Below.refl _ _⟩
  by_cases hne : n4 = n2
  case neg =>
    have hb : ((n4 : Int) != (n2 : Int)) = true := by simp; omega
    go_wp2_with fail
    go_ret
    exact ⟨rfl, Below.refl _ _⟩
  by_cases hne5 : n5 = n3
  case neg =>
    have hb : ((n4 : Int) != (n2 : Int)) = false := by simp; omega
    have hb5 : ((n5 : Int) != (n3 : Int)) = true := by simp; omega
    go_wp2_with fail
    go_ret
    exact ⟨rfl, Below.refl _ _⟩
  subst hne hne5
  go_wp2_with fail
  refine (attrMap12 a1 n1 c1 s1 t1 _ H1.out).mono ?_
  rintro x w1 ⟨rfl, oA1, bl1⟩
  go_wp2_with fail
  refine (valuesMap10 a3 n5 c3 s3 a5 n5 c5 s5 t5 (Nat.le_refl _) hn5 _ (H3.out.below bl1 (Nat.le_refl _)) (H5.out.below bl1 (Nat.le_refl _))).mono ?_
  rintro x w2 ⟨rfl, oV2, bl2⟩
  have st2 := St.mk (w := w) (owns_below oA1 bl2 oA1.lt) oV2 (bl1.trans (bl2.mono bl1.size))
  clear oA1 oV2 bl1 bl2 H1 H3 H5
  generalize fill s1 (fun i => .string (s1 i)) n1 = DA at st2
  generalize fill s3 (fun i => .string (s5 i)) n5 = DV at st2
  generalize w1.heap.size = V at *
  go_wp2_with fail
  refine (zz11 w.heap.size n1 DA none (fun _ => none) V n5 DV _ st2.a st2.v (.inl ⟨rfl, fun _ => rfl⟩)).mono ?_
  rintro x w3 ⟨b, rfl, hb, bl3⟩
  obtain rfl : b = true := hb.2 (fun kl _ => ok_none)
  have st3 := st2.next bl3
  clear st2 bl3 hb
  go_wp2_with fail
  refine (limitsMap9 none 0 0 (fun _ => ByteArray.empty) none 0 0 (fun _ => none) (fun _ => 0) (fun _ => 0) (fun _ _ => ByteArray.empty) (Nat.zero_le _) (Nat.le_refl _) (Nat.zero_le _) _ (strs_nil _ _) (grid_nil _ _ _ _ _)).mono ?_
  rintro x w4 ⟨rfl, oM4, bl4⟩
  have l4 := lims_some oM4 (limsD_fill (w := w4) (fun _ => ByteArray.empty) (fun _ => none) (fun _ => 0) (fun _ => 0) (fun _ _ => ByteArray.empty) 0 (fun _ hi => absurd hi (Nat.not_lt_zero _)))
  have st4 := st3.next bl4
  clear st3 bl4 oM4
  generalize w3.heap.size = M0 at *
  go_wp2_with fail
  refine (zz11 w.heap.size n1 DA (some M0) _ V n5 DV _ st4.a st4.v l4).mono ?_
  rintro x w5 ⟨b, rfl, hb, bl5⟩
  obtain rfl : b = true := hb.2 (fun kl _ => ok_none)
  have st5 := st4.next bl5
  clear st4 bl5 hb l4
  go_wp2_with fail
  refine (limitsMap9 a2 n4 c2 ks a4 n4 c4 A L C S t4 (Nat.le_refl _) hn4 _ (H2.out.below st5.bel (Nat.le_refl _)) (H4.out.under st5.bel (Nat.le_refl _))).mono ?_
  rintro x w6 ⟨rfl, oM6, bl6⟩
  have st6 := st5.next bl6
  have l6 := lims_some oM6 (limsD_fill (w := w6) ks A L C S n4 (fun i hi => ⟨Nat.le_trans (HL.out i hi) (by omega), (H4.out.under st6.bel (Nat.le_refl _)).row hi⟩))
  clear st5 bl6 oM6
  generalize w5.heap.size = M1 at *
  go_wp2_with fail
  refine (zz11 w.heap.size n1 DA (some M1) _ V n5 DV _ st6.a st6.v l6).mono ?_
  rintro x w7 ⟨b, rfl, hb, bl7⟩
  have st7 := st6.next bl7
  clear st6 bl7 l6
  cases b
  · have St7 : Hid (St w w.heap.size n1 DA V n5 DV w7) := st7
    clear st7 hb
    go_wp2_with fail
    go_ret
    exact ⟨rfl, St7.out.bel⟩
  have Hmet : Hid (∀ kl, has DA kl = true → OkAt DV (limF ks L S n4) kl) := hb.1 rfl
  clear hb
  have St7 : Hid (St w w.heap.size n1 DA V n5 DV w7) := st7
  clear st7
  by_cases q0 : at_ < 0
  · go_wp2_with fail
    go_ret
    exact ⟨rfl, St7.out.bel⟩
  by_cases q1 : (n4 : Int) ≤ at_
  · have q0' : decide (at_ < 0) = false := decide_eq_false q0
    go_wp2_with fail
    go_ret
    exact ⟨rfl, St7.out.bel⟩
  obtain ⟨t, rfl⟩ := Int.eq_ofNat_of_zero_le (show 0 ≤ at_ by omega)
  have ht : t < n4 := by omega
  have q0' : decide ((t : Int) < 0) = false := decide_eq_false q0
  have q1' : decide ((n4 : Int) ≤ (t : Int)) = false := decide_eq_false q1
  obtain ⟨b2, off2, ha2, hc2⟩ := H2.out.below St7.out.bel (Nat.le_refl _)
  obtain rfl := ha2 (by omega)
  obtain ⟨g1, hK⟩ := hc2 t ht
  clear ha2 hc2
  go_wp2_with fail
  refine (limitsMap9 (some ⟨b2, off2, none⟩) n4 c2 ks a4 n4 c4 A L C S t4 (Nat.le_refl _) hn4 _ (H2.out.below St7.out.bel (Nat.le_refl _)) (H4.out.under St7.out.bel (Nat.le_refl _))).mono ?_
  rintro x w8 ⟨rfl, o8, bl8⟩
  have st8 := St7.out.next bl8
  have hhas := fill_has ks (fun i => .slice (A i) (L i) (C i)) n4 t ht
  have hmap := fill_isMap ks (fun i => .slice (A i) (L i) (C i)) n4
  have ldAll : ∀ W, Below w.heap.size w W → LimsD W (fill ks (fun i => .slice (A i) (L i) (C i)) n4) (limF ks L S n4) := fun W hb => limsD_fill ks A L C S n4 (fun i hi => ⟨Nat.le_trans (HL.out i hi) (by omega), (H4.out.under hb (Nat.le_refl _)).row hi⟩)
  obtain ⟨l, c, p, s, hat, hl, hlim⟩ : ∃ l c p s, (∀ z, (fill ks (fun i => .slice (A i) (L i) (C i)) n4).atKey (key (ks t)) z = .held (.slice p l c)) ∧ l ≤ 1048576 ∧ limF ks L S n4 (key (ks t)) = some (l, s) ∧ Strs w8 p l s := by
    obtain ⟨j, hj, hz⟩ := fill_at ks (fun i => .slice (A i) (L i) (C i)) n4 (key (ks t)) hhas
    cases he : limF ks L S n4 (key (ks t)) with
    | none => rw [(ldAll w8 st8.bel (key (ks t))).1 he] at hhas; cases hhas
    | some q =>
      obtain ⟨l, s⟩ := q
      obtain ⟨_, _, p, c, h3, h4⟩ := (ldAll w8 st8.bel (key (ks t))).2 l s he
      have e := (h3 .nil).symm.trans (hz .nil)
      simp only [DataW.held.injEq, Value.slice.injEq] at e
      obtain ⟨rfl, rfl, rfl⟩ := e
      exact ⟨_, _, _, s, h3, HL.out j hj, rfl, h4⟩
  obtain ⟨hlim, hst⟩ := hlim
  have hlk := (look_slc o8 hK (hat _)).2
  have Hst : Hid (Strs w8 p l s) := hst
  have Hlim : Hid (limF ks L S n4 (key (ks t)) = some (l, s)) := hlim
  have Hld : Hid (∀ W, Below w.heap.size w W → LimsD W (fill ks (fun i => .slice (A i) (L i) (C i)) n4) (limF ks L S n4)) := ldAll
  have Hmap : Hid (IsMap (fill ks (fun i => .slice (A i) (L i) (C i)) n4)) := hmap
  have Ho8 : Hid (w8.ownsMap Trym.prog 9 slcE w7.heap.size n4 (fill ks (fun i => .slice (A i) (L i) (C i)) n4)) := o8
  have Bl8 : Hid (Below w7.heap.size w7 w8) := bl8
  clear hst hlim ldAll hmap o8 bl8 hat hhas
  obtain ⟨M2, hM2⟩ : ∃ M, w7.heap.size = M := ⟨_, rfl⟩
  rw [hM2] at hlk Ho8 Bl8 ⊢
  have HM2 : Hid (w7.heap.size = M2) := hM2
  clear hM2
  have St8 : Hid (St w w.heap.size n1 DA V n5 DV w8) := st8
  clear st8
  obtain ⟨i0, hi, hz0, hz1, hz2⟩ := info_parts info9
  obtain ⟨wm, hmk, om, gm⟩ := run_make_own (P := Trym.prog) w8 w8.heap.size 22 9 i0 (.string ByteArray.empty) 1 Trym.underlying22 hi hz0 hz1 .i64 .i64 (l + 1) (by rw [hz2]; omega) (by unfold maxLen; omega) (Nat.le_refl _)
  rw [show ((l + 1 : Nat) : Int) = (l : Int) + 1 from by omega] at hmk
  clear hi hz0 hz1 hz2
  go_upto_region 21 with fail
  clear hlk hmk g1
  have blm : Below w8.heap.size w8 wm := (Below.refl _ _).grown gm (Nat.le_refl _) (fun j hj => by cases hj)
  have Hstm : Hid (Strs wm p l s) := Hst.out.below blm (Nat.le_refl _)
  have szm : w8.heap.size ≤ wm.heap.size := gm.size
  have oE : M2 < w8.heap.size := Ho8.out.lt
  have Blm : Hid (Below w8.heap.size w8 wm) := blm
  have Hsz : Hid (∀ i, i < l → (s i).size ≤ 9223372036854775807) := by
    obtain ⟨_, _, _, hc⟩ := Hst.out
    exact fun i hi => (hc i hi).2
  clear blm gm Hst
  obtain ⟨E, hE⟩ : ∃ E, w8.heap.size = E := ⟨_, rfl⟩
  rw [hE] at szm oE Blm om ⊢
  have HE : Hid (w8.heap.size = E) := hE
  clear hE
  go_upto_region 22 with (first | (at_builtin; refine wpList_append_strs _ rfl (.tmp 96) (.tmp 97) rfl E _ 0 _ [] rfl om p l c s rfl Hstm.out (by omega) szm ?_; intro p1 c1' wn on gn; simp only [Nat.zero_add, List.nil_append] at on))
  have Bln : Hid (Below E w8 wn) := Blm.out.grown gn szm (fun j hj => by simp [Value.ownBlock] at hj; omega)
  have szn : E ≤ wn.heap.size := Nat.le_trans szm gn.size
  have own1 := on.lt
  have Own1 : Hid (∀ k, Value.ownBlock (.slice p1 l c1') = some k → E ≤ k ∧ k < wn.heap.size) := own1
  clear om gn Hstm szm Blm own1
  have hs1 : Strs (wn.alloc (.cells #[.string wd] 9)) (some ⟨wn.heap.size, 0, none⟩) 1 (fun _ => wd) := ⟨wn.heap.size, 0, fun _ => rfl, fun i hi => by
    obtain rfl : i = 0 := by omega
    exact ⟨by simp, hwd⟩⟩
  have Hs1 : Hid (Strs (wn.alloc (.cells #[.string wd] 9)) (some ⟨wn.heap.size, 0, none⟩) 1 (fun _ => wd)) := hs1
  have szn' : E ≤ (wn.alloc (.cells #[.string wd] 9)).heap.size := by simp; omega
  have Szn : Hid (E ≤ (wn.alloc (.cells #[.string wd] 9)).heap.size) := szn'
  clear hs1 szn'
  go_upto_region 23 with (first | (at_builtin; refine wpList_append_strs _ rfl (.tmp 99) (.tmp 101) rfl E _ l _ (strL s l) rfl (on.alloc _) _ 1 1 (fun _ => wd) rfl Hs1.out (by omega) Szn.out ?_; intro p2 c2' wq oq gq))
  have Blq : Hid (Below E w8 wq) := (Bln.out.alloc szn _).grown gq Szn.out (fun j hj => (Own1.out j hj).1)
  rw [show strL (fun _ => wd) 1 = [.string wd] from rfl] at oq
  have Hrow : Hid (Strs wq p2 (l + 1) (more s l wd)) := strs_of_row oq Hsz.out hwd
  have Hge : Hid (∀ b off, p2 = some ⟨b, off, none⟩ → M2 < b) := fun b off he => by
    have := oq.lt b (by rw [he]; rfl)
    omega
  have oM2q := owns_below Ho8.out Blq.out oE
  clear on oq gq Bln szn Own1 Hs1 Szn
  obtain ⟨D, hD⟩ : ∃ D, fill ks (fun i => .slice (A i) (L i) (C i)) n4 = D := ⟨_, rfl⟩
  rw [hD] at Hld Hmap Ho8 oM2q
  have HD : Hid (fill ks (fun i => .slice (A i) (L i) (C i)) n4 = D) := hD
  clear hD
  have hmax : n4 < maxLen := by unfold maxLen; omega
  go_upto_region 24 with (first | (at_mapUpdate; refine wpList_mapUpdate_own _ rfl _ _ _ 27 rfl 9 22 law9 Trym.underlying27 slcE M2 n4 D rfl oM2q hmax _ _ (key (ks t)) rfl rfl (key_of hK) _ [] rfl ?_; intro wu ou gu))
  have blu : Below w7.heap.size w7 wu := by
    rw [HM2.out]
    exact (Bl8.out.trans (Blq.out.mono (Nat.le_of_lt oE))).grown gu (Nat.le_of_lt oM2q.lt) (fun j hj => by cases hj; exact Nat.le_refl _)
  have stu := St7.out.next blu
  have ldu := (Hld.out wu stu.bel).put Hmap.out (ks t) (a := p2) (n := l + 1) (c := c2') (s := more s l wd) (by omega) (Hrow.out.far gu (fun j hj b off ha hp => by cases hj; have := Hge.out b off ha; omega))
  have Stu : Hid (St w w.heap.size n1 DA V n5 DV wu) := stu
  have Ldu : Hid (LimsD wu (D.put (key (ks t)) (.held (.slice p2 (l + 1) c2'))) (limPut (ks t) (l + 1, more s l wd) (limF ks L S n4))) := ldu
  have Ou : Hid (wu.ownsMap Trym.prog 9 slcE M2 (n4 + 1) (D.put (key (ks t)) (.held (.slice p2 (l + 1) c2')))) := ou
  clear stu ldu ou gu blu oM2q Hrow Hge Blq Ho8 Bl8 HE HM2 St8 Hsz
  go_wp2_with fail
  refine (limitsMap9 (some ⟨b2, off2, none⟩) n4 c2 ks a4 n4 c4 A L C S t4 (Nat.le_refl _) hn4 _ (H2.out.below Stu.out.bel (Nat.le_refl _)) (H4.out.under Stu.out.bel (Nat.le_refl _))).mono ?_
  rintro x wf ⟨rfl, of, blf⟩
  rw [HD.out] at of
  have Blf : Hid (Below wu.heap.size wu wf) := blf
  clear blf
  obtain ⟨M3, hM3⟩ : ∃ M, wu.heap.size = M := ⟨_, rfl⟩
  rw [hM3] at of Blf ⊢
  have HM3 : Hid (wu.heap.size = M3) := hM3
  clear hM3
  go_upto_region 26 with (first | (at_delete; refine wpList_delete_own _ rfl _ _ 27 9 rfl 22 law9 Trym.underlying27 slcE M3 n4 D rfl of _ (key (ks t)) rfl (key_of hK) ?_; intro wg og tg))
  have blg : Below wu.heap.size wu wg := by
    rw [HM3.out]
    exact Blf.out.grown tg.grown (Nat.le_of_lt of.lt) (fun j hj => by cases hj; exact Nat.le_refl _)
  have stg := Stu.out.next blg
  have l2 := lims_some (owns_below Ou.out blg Ou.out.lt) (Ldu.out.below blg (Nat.le_refl _))
  have Stg : Hid (St w w.heap.size n1 DA V n5 DV wg) := stg
  have L2 : Hid (Lims wg (some M2) (limPut (ks t) (l + 1, more s l wd) (limF ks L S n4))) := l2
  have Og : Hid (wg.ownsMap Trym.prog 9 slcE M3 n4 (D.del (key (ks t)))) := og
  clear stg l2 og tg blg of Blf
  go_wp2_with fail
  refine (zz11 w.heap.size n1 DA (some M2) _ V n5 DV _ Stg.out.a Stg.out.v L2.out).mono ?_
  rintro x wh ⟨b, rfl, hb, blh⟩
  obtain rfl : b = true := hb.2 (fun kl h => ok_wider Hlim.out (Hmet.out kl h))
  have sth := Stg.out.next blh
  have l3 := lims_some (owns_below Og.out blh Og.out.lt) ((Hld.out wh sth.bel).del (ks t))
  have Sth : Hid (St w w.heap.size n1 DA V n5 DV wh) := sth
  have L3 : Hid (Lims wh (some M3) (limDel (ks t) (limF ks L S n4))) := l3
  clear sth l3 hb blh
  go_wp2_with fail
  refine (zz11 w.heap.size n1 DA (some M3) _ V n5 DV _ Sth.out.a Sth.out.v L3.out).mono ?_
  rintro x wi ⟨b, rfl, hb, bli⟩
  obtain rfl : b = true := hb.2 (fun kl h => ok_fewer (Hmet.out kl h))
  have Sti : Hid (St w w.heap.size n1 DA V n5 DV wi) := Sth.out.next bli
  clear hb bli
  go_wp2_with fail
  go_ret
  exact ⟨rfl, Sti.out.bel⟩
end Go.Proofs.Qxb6600978aMods
