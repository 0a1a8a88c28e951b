/-
  The walk of FnFillKeepsEarlierArguments (4).
-/
import Derived.Test.Qxb6627947aSame
import Derived.Deep.DeepCutAuto
import Derived.Deep.RegionWith
namespace Go.Proofs.Qxb6627947a
open Go.ChangeShapes Go.WideShapes Go.ChangeAt Go.RowKit

set_option linter.unusedVariables false
set_option maxHeartbeats 4000000 in
set_option maxRecDepth 10000 in
theorem keeps_walk (a0 : Option Addr) (n0 c0 : Nat) (o : Nat → Int) (a1 : Option Addr) (n1 c1 : Nat) (A1 : Nat → Option Addr) (L1 C1 : Nat → Nat) (O1 : Nat → Nat → Int) (a2 : Option Addr) (n2 c2 : Nat) (o2 : Nat → Int)
    (a3 : Option Addr) (n3 c3 : Nat) (A3 : Nat → Option Addr) (L3 C3 : Nat → Nat) (O3 : Nat → Nat → Int) (x4 : Int) (w : World)
    (h0 : ByteRow w a0 n0 o) (h1 : SlRow w a1 n1 A1 L1 C1) (e1 : ∀ r, r < n1 → ByteRow w (A1 r) (L1 r) (O1 r)) (h2 : ByteRow w a2 n2 o2) (h3 : SlRow w a3 n3 A3 L3 C3) (e3 : ∀ r, r < n3 → ByteRow w (A3 r) (L3 r) (O3 r)) :
    Calls Try.prog 4 #[.slice a0 n0 c0, .slice a1 n1 c1, .slice a2 n2 c2, .slice a3 n3 c3, .int .i64 x4] w fun e w' => e = .returned (.bool true) ∧ Below w.heap.size w w' := by
  go_enter Try.func4, Try.ntmps4
  go_wp2_with fail
  refine (zz16_any x4 h1 h3).mono ?_
  rintro e w' ⟨⟨b, rfl, _⟩, rfl⟩
  cases b
  · go_wp2
    go_ret
    exact ⟨rfl, Below.refl _ _⟩
  go_wp2_with fail
  refine (sizeOK_any h1 h3).mono ?_
  rintro e w' ⟨⟨b, rfl, hb⟩, rfl⟩
  cases b
  · go_wp2
    go_ret
    exact ⟨rfl, Below.refl _ _⟩
  obtain ⟨f0, f1, f2, f3, l1, l3⟩ := hb rfl
  clear hb
  by_cases hx0 : x4 < 0
  · go_wp2
    go_ret
    exact ⟨rfl, Below.refl _ _⟩
  by_cases hx1 : (n0 : Int) < x4
  · go_wp2
    go_ret
    exact ⟨rfl, Below.refl _ _⟩
  obtain ⟨cut, rfl⟩ : ∃ cut : Nat, x4 = (cut : Int) := ⟨x4.toNat, by omega⟩
  have hcn : cut ≤ n0 := by omega
  go_wp2_with fail
  refine (wellFormed_any n3 h0 h1 f0 (by omega) l1).mono ?_
  rintro e w' ⟨⟨b, rfl, hb⟩, rfl⟩
  cases b
  · go_wp2
    go_ret
    exact ⟨rfl, Below.refl _ _⟩
  obtain ⟨hok, hkn⟩ := hb rfl
  clear hb
  have hq := nnil22
  have HOK : Hid (∀ i, i < n0 → okAt o L1 n1 i) := hok
  have HL1 : Hid (∀ j, j < n1 → L1 j ≤ 1048576) := l1
  have HL3 : Hid (∀ j, j < n3 → L3 j ≤ 1048576) := l3
  clear hok l1 l3
  go_upto_if 48 with fail
  go_cut [0] (fun s wx => ∃ a' c', s = .slice a' n0 c' ∧ ByteRow wx a' n0 o ∧ n0 ≤ c' ∧ Below w.heap.size w wx)
  case first =>
    cases a0 with
    | none =>
      have hz : n0 = 0 := by
        by_cases hz : n0 = 0
        · exact hz
        · obtain ⟨b, off, e, _⟩ := h0.1 (by omega); cases e
      go_wp2
      go_meet
      case rel => exact ⟨none, c0, rfl, h0, by omega, Below.refl _ _⟩
    | some x =>
      obtain ⟨wk, hk1, hk2, hk3⟩ := copy_made (cap := c0) h0 3
      have hmk := make22 n0 f0 w
      have HB : Hid (ByteRow wk (some ⟨w.heap.size, 0, none⟩) n0 o) := row_bytes hk2 (fun i _ => rfl) h0.2
      clear hk2
      go_wp2
      go_meet
      case rel => exact ⟨_, n0, rfl, HB.out, Nat.le_refl _, hk3⟩
  case rest =>
    obtain ⟨ao, co, rfl, hO, hco, bx0⟩ := hcut
    go_upto_if 57 with fail
    go_cut [2] (fun s wx => ∃ a' c', s = .slice a' n2 c' ∧ ByteRow wx ao n0 o ∧ Below w.heap.size w wx)
    case first =>
      cases a2 with
      | none =>
        go_wp2
        go_meet
        case rel => exact ⟨none, c2, rfl, hO, bx0⟩
      | some x =>
        obtain ⟨wk, hk1, hk2, hk3⟩ := copy_made (cap := c2) (h2.below bx0) 3
        have hmk := make22 n2 f2 wc
        have HB : Hid (ByteRow wk ao n0 o) := hO.below hk3
        have HW : Hid (Below w.heap.size w wk) := bx0.trans (hk3.mono bx0.size)
        clear hk2 hk3 bx0
        go_wp2
        go_meet
        case rel => exact ⟨_, n2, rfl, HB.out, HW.out⟩
    case rest =>
      clear bx0 hO
      obtain ⟨ar2, cr2, rfl, hO, bx⟩ := hcut
      clear h0 h2
      go_wp2_with fail
      refine (cloneSlices_any (h1.below bx) (by omega) HL1.out (fun j hj => (e1 j hj).below bx)).mono ?_
      rintro e wa ⟨hc, ba⟩
      obtain ⟨ar, br, Ar, rfl, hrow1, hel1⟩ := hc.uniform
      clear hc
      have bxa := bx.trans (ba.mono bx.size)
      go_wp2_with fail
      refine (cloneSlices_any (h3.below bxa) (by omega) HL3.out (fun j hj => (e3 j hj).below bxa)).mono ?_
      rintro e wb ⟨hc, bb⟩
      obtain ⟨aa, bb3, Aa, rfl, hrow3, hel3⟩ := hc.uniform
      clear hc
      have bxb := bxa.trans (bb.mono bxa.size)
      have s3 : SlRow wb aa n3 Aa L3 L3 := fun hp => by
        obtain ⟨_, e, hr⟩ := hrow3 hp
        rw [e]; exact row_slrow (G := fun r => ⟨Aa r, L3 r, L3 r⟩) hr hp
      go_wp2_with fail
      refine (cloneSlices_any s3 (by omega) HL3.out (fun j hj => (hel3 j hj).2.1)).mono ?_
      rintro e wd ⟨hc, bd⟩
      obtain ⟨ae, be, Ae, rfl, hrowe, hele⟩ := hc.uniform
      clear hc s3
      have bxd := bxb.trans (bd.mono bxb.size)
      -- the blocks lie apart
      have hOd : ByteRow wd ao n0 o := ((hO.below ba).below bb).below bd
      have hao : 0 < n0 → ∀ b off, ao = some ⟨b, off, none⟩ → b < wc.heap.size := fun hp b off e => by
        obtain ⟨b', off', e', hb', _⟩ := hO.at hp
        rw [e] at e'; cases e'; exact hb'
      have hr1 : 0 < n1 → br < wa.heap.size := fun hp => (hrow1 hp).2.2.lt
      have hr3 : 0 < n3 → bb3 < wb.heap.size := fun hp => (hrow3 hp).2.2.lt
      have hB3 : 0 < n3 → wa.heap.size ≤ bb3 := fun hp => (hrow3 hp).1
      have hBe : 0 < n3 → wb.heap.size ≤ be := fun hp => (hrowe hp).1
      have hBr : 0 < n1 → wc.heap.size ≤ br := fun hp => (hrow1 hp).1
      have z1 := ba.size
      have z2 := bb.size
      have z3 := bd.size
      have z0 := bx.size
      clear h1 e1 h3 e3
      obtain ⟨R, hRd⟩ : ∃ R : Nat → Rn, R = fun r => ⟨Ar r, L1 r, L1 r⟩ := ⟨_, rfl⟩
      obtain ⟨G3, hG3⟩ : ∃ R : Nat → Rn, R = fun r => ⟨Aa r, L3 r, L3 r⟩ := ⟨_, rfl⟩
      obtain ⟨Ge, hGe⟩ : ∃ R : Nat → Rn, R = fun r => ⟨Ae r, L3 r, L3 r⟩ := ⟨_, rfl⟩
      have RL : ∀ j, j < n1 → (R j).len = L1 j ∧ (R j).len ≤ (R j).cap := fun j _ => by rw [hRd]; exact ⟨rfl, Nat.le_refl _⟩
      have RA : ∀ j, j < n1 → 0 < (R j).len → ∃ x, (R j).a = some x := fun j hj hp => by
        rw [hRd] at hp ⊢
        obtain ⟨b, off, e, _⟩ := (hel1 j hj).2.1.1 hp
        exact ⟨_, e⟩
      have q1 : 0 < n1 → ar = some ⟨br, 0, none⟩ ∧ wd.rowIs br 22 n1 (fun r => (R r).val) := fun hp => by
        obtain ⟨_, e, hr⟩ := hrow1 hp
        rw [hRd]
        exact ⟨e, (hr.of_block (bb.block br (hr1 hp))).of_block (bd.block br (by have := hr1 hp; omega))⟩
      have q3 : 0 < n3 → aa = some ⟨bb3, 0, none⟩ ∧ wd.rowIs bb3 22 n3 (fun r => (G3 r).val) := fun hp => by
        obtain ⟨_, e, hr⟩ := hrow3 hp
        rw [hG3]
        exact ⟨e, hr.of_block (bd.block bb3 (hr3 hp))⟩
      have qe : 0 < n3 → ae = some ⟨be, 0, none⟩ ∧ wd.rowIs be 22 n3 (fun r => (Ge r).val) := fun hp => by
        obtain ⟨_, e, hr⟩ := hrowe hp
        rw [hGe]
        exact ⟨e, hr⟩
      clear hRd hG3 hGe hrow1 hrow3 hrowe hel1 hel3 hele ba bb bd bx bxa bxb hO
      have HZ1 : Hid (Calls Try.prog 9 #[.slice ao n0 co, .slice ar n1 n1, .slice ar2 n2 cr2, .slice aa n3 n3] wd fun e w' => e = .returned (.slice aa n3 n3) ∧ wd.grownBy w' (rowOf n3 bb3) ∧
          (0 < n3 → w'.rowIs bb3 22 n3 (fun r => (fl o R ⟨some ⟨wd.heap.size + 1, 0, none⟩, 0, 0⟩ G3 n0 r).val))) :=
        zzfill_any hOd (fun hp => ⟨br, 0, (q1 hp).1, fun hn => by have := hr1 hp; have := hB3 hn; omega, fun i hi => by rw [Nat.zero_add]; exact (q1 hp).2.cell hi⟩) f0 RL HOK.out hkn (by omega)
          (fun hp b off e hn => by have := hao hp b off e; have := hB3 hn; omega) q3
      go_wp2_with (first
        | (go_at_call 12; refine (roomBefore_any cut hOd hcn (by omega)).mono ?_; rintro e x0 ⟨rfl, rfl⟩)
        | (go_at_call 10; refine (argsBefore_any _ hOd (by omega) (by omega)).mono ?_; rintro e x0 ⟨rfl, rfl⟩)
        | (go_at_call 9; refine HZ1.out.mono ?_; rintro e wf ⟨rfl, hgw, hrw⟩))
      have hjc : jn o cut ≤ n1 := jn_room HOK.out cut hcn
      have hkc : kn o cut ≤ kn o n0 := kn_mono o hcn
      have hgb : Below w.heap.size w wf := bxd.trans (grown_below hgw bxd.size (fun hp => by have := hB3 hp; omega))
      have hOf : ByteRow wf ao n0 o := hOd.grown hgw (fun hp b off e => rowOf_ne (fun hn => by have := hao hp b off e; have := hB3 hn; omega))
      have q1f : 0 < n1 → ar = some ⟨br, 0, none⟩ ∧ wf.rowIs br 22 n1 (fun r => (R r).val) := fun hp =>
        ⟨(q1 hp).1, (q1 hp).2.of_block (hgw.block br (q1 hp).2.lt (rowOf_ne (fun hn => by have := hr1 hp; have := hB3 hn; omega)))⟩
      have qef : 0 < n3 → ae = some ⟨be, 0, none⟩ ∧ wf.rowIs be 22 n3 (fun r => (Ge r).val) := fun hp =>
        ⟨(qe hp).1, (qe hp).2.of_block (hgw.block be (qe hp).2.lt (rowOf_ne (fun hn => by have := hr3 hp; have := hBe hp; omega)))⟩
      have qaf : 0 < n3 → aa = some ⟨bb3, 0, none⟩ := fun hp => (q3 hp).1
      have z4 := hgw.size
      clear q1 q3 qe hOd HZ1 bxd hgw
      have HZ2 : Hid (Calls Try.prog 9 #[.slice ao cut co, .slice ar (jn o cut) n1, .slice ar2 n2 cr2, .slice ae n3 n3] wf.drew fun e w' => e = .returned (.slice ae n3 n3) ∧ wf.grownBy w' (rowOf n3 be) ∧
          (0 < n3 → w'.rowIs be 22 n3 (fun r => (fl o R ⟨some ⟨wf.heap.size + 1, 0, none⟩, 0, 0⟩ Ge cut r).val))) :=
        (zzfill_any (w := wf.drew) ((hOf.take hcn).below (Below.refl _ _).drew) (fun hp => ⟨br, 0, (q1f (by omega)).1, fun hn => by have := hr1 (by omega); have := hBe hn; omega, fun i hi => by rw [Nat.zero_add]; exact (q1f (by omega)).2.cell (by omega)⟩)
          (by omega) (fun j hj => RL j (by omega)) (ok_cut HOK.out hcn) (by omega) (by omega)
          (fun hp b off e hn => by have := hao (by omega) b off e; have := hBe hn; omega) (fun hp => qef hp)).mono
          (fun e w' ⟨x, y, z⟩ => ⟨x, ⟨y.os, y.tape, y.output, y.size, y.block⟩, z⟩)
      go_cut [18] (fun s wx => s = .slice ae n3 n3 ∧ wf.grownBy wx (rowOf n3 be) ∧ (0 < n3 → wx.rowIs be 22 n3 (fun r => (fl o R ⟨some ⟨wf.heap.size + 1, 0, none⟩, 0, 0⟩ Ge cut r).val)))
      case first =>
        go_region_with (go_at_call 9; refine HZ2.out.mono ?_; rintro e wg ⟨rfl, hgw, hrw⟩)
        all_goals
          go_wp2_with fail
          go_meet
          case rel => exact ⟨rfl, hgw, hrw⟩
      case rest =>
        obtain ⟨rfl, hgw2, hrw2⟩ := hcut
        have hOg : ByteRow wc ao n0 o := hOf.grown hgw2 (fun hp b off e => rowOf_ne (fun hn => by have := hao hp b off e; have := hBe hn; omega))
        have hgb2 : Below w.heap.size w wc := hgb.trans (grown_below hgw2 hgb.size (fun hp => by have := hBe hp; omega))
        have hrooms : ∃ AR CR, SlRow wc ar n1 AR L1 CR := by
          refine ⟨fun i => (R i).a, fun i => (R i).cap, fun hp => ?_⟩
          obtain ⟨e, hr⟩ := q1f hp
          have hr' := hr.of_block (hgw2.block br hr.lt (rowOf_ne (fun hn => by have := hr1 hp; have := hBe hn; omega)))
          refine ⟨br, 0, e, fun i hi => ?_⟩
          rw [Nat.zero_add, hr'.cell hi]
          show some (Value.slice (R i).a (R i).len (R i).cap) = _
          rw [(RL i hi).1]
        have hsame : ∀ z, z < kn o cut → SameRn (fl o R ⟨some ⟨wd.heap.size + 1, 0, none⟩, 0, 0⟩ G3 n0 z) (fl o R ⟨some ⟨wf.heap.size + 1, 0, none⟩, 0, 0⟩ Ge cut z) :=
          fun z hz => fl_same hOf.2 RL RA HOK.out _ _ G3 Ge hcn hz
        have hs1 := fl_sum RL HOK.out ⟨some ⟨wd.heap.size + 1, 0, none⟩, 0, 0⟩ G3 n0 (Nat.le_refl _)
        have hs2 := fl_sum RL HOK.out ⟨some ⟨wf.heap.size + 1, 0, none⟩, 0, 0⟩ Ge cut hcn
        have hl1 : ∀ z, z < kn o n0 → (fl o R ⟨some ⟨wd.heap.size + 1, 0, none⟩, 0, 0⟩ G3 n0 z).len ≤ 1048576 := fun z hz => fl_len_le hOf.2 RL HL1.out HOK.out _ G3 (Nat.le_refl _) hz
        have hl2 : ∀ z, z < kn o cut → (fl o R ⟨some ⟨wf.heap.size + 1, 0, none⟩, 0, 0⟩ Ge cut z).len ≤ 1048576 := fun z hz => fl_len_le hOf.2 RL HL1.out HOK.out _ Ge hcn hz
        have hrw' : 0 < n3 → wc.rowIs bb3 22 n3 (fun r => (fl o R ⟨some ⟨wd.heap.size + 1, 0, none⟩, 0, 0⟩ G3 n0 r).val) := fun hp =>
          (hrw hp).of_block (hgw2.block bb3 (hrw hp).lt (rowOf_ne (fun hn => by have := hr3 hp; have := hBe hp; omega)))
        have hea : 0 < n3 → ae = some ⟨be, 0, none⟩ := fun hp => (qef hp).1
        clear HZ2 q1f qef hrw hOf hgb hgw2 hao hr1 hr3 hB3 hBe hBr RL RA z0 z1 z2 z3 z4
        revert hsame hs1 hs2 hl1 hl2 hrw' hrw2
        generalize fl o R ⟨some ⟨wd.heap.size + 1, 0, none⟩, 0, 0⟩ G3 n0 = W
        generalize fl o R ⟨some ⟨wf.heap.size + 1, 0, none⟩, 0, 0⟩ Ge cut = P
        intro hrw2 hsame hs1 hs2 hl1 hl2 hrw'
        obtain ⟨AR, CR, sR⟩ := hrooms
        have sW : SlRow wc aa n3 (fun i => (W i).a) (fun i => (W i).len) (fun i => (W i).cap) := fun hp => by
          rw [qaf hp]; exact row_slrow (hrw' hp) hp
        have sP : SlRow wc ae n3 (fun i => (P i).a) (fun i => (P i).len) (fun i => (P i).cap) := fun hp => by
          rw [hea hp]; exact row_slrow (hrw2 hp) hp
        have hbase : wc.heap.size ≤ wc.heap.size := Nat.le_refl _
        have hab1 : ab o L1 n0 ≤ n0 * 1048576 := ab_le o L1 n0 hOg.2 HOK.out HL1.out (by decide) (Nat.le_refl _)
        have hab2 : ab o L1 cut ≤ cut * 1048576 := ab_le o L1 cut hOg.2 HOK.out HL1.out (by decide) hcn
        go_wp2_with fail
        have hkc4 : kn o cut ≤ 1048576 := by omega
        go_loopw [19] (fun i wr => ∃ k : Nat, k ≤ kn o cut ∧ i = .int .i64 k ∧ Below wc.heap.size wc wr) (fun i _ => kn o cut - (intOf i).toNat)
        case atStart => exact ⟨0, Nat.zero_le _, rfl, Below.refl _ _⟩
        case round =>
          obtain ⟨k, hk, rfl, hbr⟩ := hrel
          by_cases hlt : k < kn o cut
          · have hn3 : 0 < n3 := by omega
            obtain ⟨i1, i2, i3, i4⟩ := hsame k hlt
            have i5 := hl1 k (by omega)
            have rA := (hrw' hn3).of_block (hbr.block bb3 (hrw' hn3).lt)
            have rE := (hrw2 hn3).of_block (hbr.block be (hrw2 hn3).lt)
            have g1 : wr.cell? ⟨bb3, k, none⟩ = some (.slice (W k).a (W k).len (W k).cap) := rA.cell (by omega)
            have g2 : wr.cell? ⟨be, k, none⟩ = some (.slice (P k).a (W k).len (W k).cap) := by rw [i1, i2]; exact rE.cell (by omega)
            have ea := qaf hn3
            have ee := hea hn3
            subst ea
            subst ee
            clear i1 i2 rA rE hsame hs1 hs2 hl1 hl2 hrw' hrw2 sW sP sR hOg hab1 hab2 qaf hea
            revert i3 i4 i5 g1 g2
            generalize (W k).a = wa
            generalize (W k).len = wl
            generalize (W k).cap = wcp
            generalize (P k).a = pa
            intro i3 i4 i5 g1 g2
            have hk3 : (k : Int) < (n3 : Int) := by omega
            go_wp2_with fail
            go_quiet ((go_at_call 11; exact Calls.quiet_of (sameSlice_any wa pa wl wcp i3 i4 i5)))
            go_wp2
            go_roundw
            case rel => exact ⟨k + 1, by omega, by go_num, below_drewN hbr _⟩
            case measure => simp [intOf]; omega
          · have sWr := sW.below hbr
            have sPr := sP.below hbr
            have sRr := sR.below hbr
            have hOr := hOg.below hbr
            have HW : Hid (Below w.heap.size w wr) := hgb2.trans (hbr.mono hgb2.size)
            clear hsame hrw' hrw2 sW sP sR hOg qaf hea hbr
            obtain ⟨AW, LW, CW, sWq, hW1, hW2⟩ : ∃ (AW : Nat → Option Addr) (LW CW : Nat → Nat), SlRow wr aa n3 AW LW CW ∧ sl LW (kn o n0) = ab o L1 n0 ∧ ∀ j, j < kn o n0 → LW j ≤ 1048576 := ⟨_, _, _, sWr, hs1, hl1⟩
            obtain ⟨AP, LP, CP, sPq, hP1, hP2⟩ : ∃ (AP : Nat → Option Addr) (LP CP : Nat → Nat), SlRow wr ae n3 AP LP CP ∧ sl LP (kn o cut) = ab o L1 cut ∧ ∀ j, j < kn o cut → LP j ≤ 1048576 := ⟨_, _, _, sPr, hs2, hl2⟩
            clear sWr sPr hs1 hs2 hl1 hl2
            have HC1 : Hid (Calls Try.prog 17 #[.slice aa n3 n3, .int .i64 (kn o n0 : Nat)] wr fun e w' => e = .returned (.int .i64 (ab o L1 n0)) ∧ wr = w') := by
              have := sumLens_any (cap := n3) (kn o n0) sWq hkn (by omega) hW2
              rw [hW1] at this
              exact this
            have HC2 : Hid (Calls Try.prog 17 #[.slice ae n3 n3, .int .i64 (kn o cut : Nat)] wr fun e w' => e = .returned (.int .i64 (ab o L1 cut)) ∧ wr = w') := by
              have := sumLens_any (cap := n3) (kn o cut) sPq (by omega) (by omega) hP2
              rw [hP1] at this
              exact this
            have HC3 : Hid (Calls Try.prog 18 #[.slice ao n0 co, .slice ar n1 n1, .int .i64 (n0 : Nat)] wr fun e w' => e = .returned (.int .i64 (ab o L1 n0)) ∧ wr = w') :=
              argBytes_any n0 hOr sRr (Nat.le_refl _) f0 HL1.out HOK.out
            have HC4 : Hid (Calls Try.prog 18 #[.slice ao n0 co, .slice ar n1 n1, .int .i64 (cut : Nat)] wr fun e w' => e = .returned (.int .i64 (ab o L1 cut)) ∧ wr = w') :=
              argBytes_any cut hOr sRr hcn (by omega) HL1.out (fun i hi => HOK.out i (by omega))
            clear hW1 hW2 hP1 hP2 sWq sPq sRr hOr
            go_wp2_with fail
            refine HC1.out.mono ?_
            rintro e x0 ⟨rfl, rfl⟩
            go_wp2_with fail
            refine HC3.out.mono ?_
            rintro e x0 ⟨rfl, rfl⟩
            go_wp2_with fail
            refine HC2.out.mono ?_
            rintro e x0 ⟨rfl, rfl⟩
            go_wp2_with fail
            refine HC4.out.mono ?_
            rintro e x0 ⟨rfl, rfl⟩
            go_wp2
            go_ret
            exact ⟨rfl, HW.out⟩
end Go.Proofs.Qxb6627947a
