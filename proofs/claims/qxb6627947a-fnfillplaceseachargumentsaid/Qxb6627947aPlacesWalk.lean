/-
  The walk of FnFillPlacesEachArgument (3).
-/
import Derived.Test.Qxb6627947aMore
import Derived.Deep.DeepCutAuto
import Derived.Deep.RegionWith
namespace Go.Proofs.Qxb6627947a
open Go.ChangeShapes Go.WideShapes Go.ChangeAt Go.RowKit

/-- where the argument of a length op lies -/
theorem place_len {o : Nat → Int} {R : Nat → Rn} {L : Nat → Nat} {n nr : Nat} (hb : ∀ i, 0 ≤ o i ∧ o i ≤ 255) (hR : ∀ j, j < nr → (R j).len = L j ∧ (R j).len ≤ (R j).cap) (hRa : ∀ j, j < nr → 0 < (R j).len → ∃ b off, (R j).a = some ⟨b, off, none⟩)
    (hok : ∀ i, i < n → okAt o L nr i) (x : Addr) {p : Nat} (hp : p < n) (h : ¬ o p = 129) (h' : ¬ o p = 130) :
    (lrI o p = -1 ∧ (o p).toNat = 0 ∧ rn o R ⟨some x, 0, 0⟩ p = ⟨some x, 0, 0⟩) ∨
    ∃ m : Nat, lrI o p = (m : Int) ∧ m < p ∧ jn o m < nr ∧ ((rn o R ⟨some x, 0, 0⟩ p).a = none ↔ (R (jn o m)).a = none) ∧
      (0 < (o p).toNat → ∃ b off, (R (jn o m)).a = some ⟨b, off, none⟩ ∧ (rn o R ⟨some x, 0, 0⟩ p).a = some ⟨b, off + cb o m p, none⟩ ∧ cb o m p < (R (jn o m)).len) := by
  obtain ⟨g0, g⟩ := (hok p hp).2.2 h h'
  have hbp := hb p
  obtain ⟨hl, hc⟩ := rn_left (r0 := ⟨some x, 0, 0⟩) hb hR rfl hok p (by omega)
  rcases lrI_or o p with ⟨e, hno⟩ | ⟨m, e, hm, h1, h2⟩
  · have hf := rn_first hb hR hok x p (by omega) hno
    rw [hf] at hl
    refine .inl ⟨e, ?_, hf⟩
    simp at hl
    omega
  · have hj := (hok m (by omega)).1 h1
    obtain ⟨i1, i2, i3, i4⟩ := rn_since hb hR hok ⟨some x, 0, 0⟩ rfl h1 p hm (by omega) h2
    refine .inr ⟨m, e, hm, hj, i3, fun hy => ?_⟩
    obtain ⟨b, off, ea⟩ := hRa _ hj (by omega)
    refine ⟨b, off, ea, ?_, by omega⟩
    rw [i4 (by omega), ea]
    simp only [Option.map_some]
    unfold Addr.add
    by_cases z : cb o m p = 0 <;> simp [z]

set_option linter.unusedVariables false
set_option maxHeartbeats 4000000 in
set_option maxRecDepth 10000 in
theorem places_walk (a0 : Option Addr) (n0 c0 : Nat) (o : Nat → Int) (a1 : Option Addr) (n1 c1 : Nat) (A1 : Nat → Option Addr) (L1 C1 : Nat → Nat) (O1 : Nat → Nat → Int) (a2 : Option Addr) (n2 c2 : Nat) (o2 : Nat → Int)
    (a3 : Option Addr) (n3 c3 : Nat) (A3 : Nat → Option Addr) (L3 C3 : Nat → Nat) (O3 : Nat → Nat → Int) (w : World)
    (h0 : ByteRow w a0 n0 o) (h1 : SlRow w a1 n1 A1 L1 C1) (e1 : ∀ r, r < n1 → ByteRow w (A1 r) (L1 r) (O1 r)) (h2 : ByteRow w a2 n2 o2) (h3 : SlRow w a3 n3 A3 L3 C3) (e3 : ∀ r, r < n3 → ByteRow w (A3 r) (L3 r) (O3 r)) :
    Calls Try.prog 3 #[.slice a0 n0 c0, .slice a1 n1 c1, .slice a2 n2 c2, .slice a3 n3 c3] w fun e w' => e = .returned (.bool true) ∧ Below w.heap.size w w' := by
  go_enter Try.func3, Try.ntmps3
  go_wp2_with fail
  refine (zz5_any h1 h3).mono ?_
  rintro e w' ⟨⟨b, rfl, _⟩, rfl⟩
  cases b
  · go_wp2
    go_ret
    exact ⟨rfl, Below.refl _ _⟩
  go_wp2_with fail
  refine (sizeOK_any h1 h3).mono ?_
  rintro e w' ⟨⟨b, rfl, hb⟩, rfl⟩
  cases b
  · go_wp2
    go_ret
    exact ⟨rfl, Below.refl _ _⟩
  obtain ⟨f0, f1, f2, f3, l1, l3⟩ := hb rfl
  clear hb
  by_cases hx0 : n0 ≤ 4096
  case neg =>
    go_wp2
    go_ret
    exact ⟨rfl, Below.refl _ _⟩
  go_wp2_with fail
  refine (wellFormed_any n3 h0 h1 f0 (by omega) l1).mono ?_
  rintro e w' ⟨⟨b, rfl, hb⟩, rfl⟩
  cases b
  · go_wp2
    go_ret
    exact ⟨rfl, Below.refl _ _⟩
  obtain ⟨hok, hkn⟩ := hb rfl
  clear hb
  have hq := nnil22
  have HOK : Hid (∀ i, i < n0 → okAt o L1 n1 i) := hok
  have HL1 : Hid (∀ j, j < n1 → L1 j ≤ 1048576) := l1
  have HL3 : Hid (∀ j, j < n3 → L3 j ≤ 1048576) := l3
  clear hok l1 l3
  go_upto_if 43 with fail
  go_cut [0] (fun s wx => ∃ a' c', s = .slice a' n0 c' ∧ ByteRow wx a' n0 o ∧ n0 ≤ c' ∧ Below w.heap.size w wx)
  case first =>
    cases a0 with
    | none =>
      have hz : n0 = 0 := by
        by_cases hz : n0 = 0
        · exact hz
        · obtain ⟨b, off, e, _⟩ := h0.1 (by omega); cases e
      go_wp2
      go_meet
      case rel => exact ⟨none, c0, rfl, h0, by omega, Below.refl _ _⟩
    | some x =>
      obtain ⟨wk, hk1, hk2, hk3⟩ := copy_made (cap := c0) h0 3
      have hmk := make22 n0 f0 w
      have HB : Hid (ByteRow wk (some ⟨w.heap.size, 0, none⟩) n0 o) := row_bytes hk2 (fun i _ => rfl) h0.2
      clear hk2
      go_wp2
      go_meet
      case rel => exact ⟨_, n0, rfl, HB.out, Nat.le_refl _, hk3⟩
  case rest =>
    obtain ⟨ao, co, rfl, hO, hco, bx0⟩ := hcut
    go_upto_if 52 with fail
    go_cut [2] (fun s wx => ∃ a' c', s = .slice a' n2 c' ∧ ByteRow wx ao n0 o ∧ Below w.heap.size w wx)
    case first =>
      cases a2 with
      | none =>
        go_wp2
        go_meet
        case rel => exact ⟨none, c2, rfl, hO, bx0⟩
      | some x =>
        obtain ⟨wk, hk1, hk2, hk3⟩ := copy_made (cap := c2) (h2.below bx0) 3
        have hmk := make22 n2 f2 wc
        have HB : Hid (ByteRow wk ao n0 o) := hO.below hk3
        have HW : Hid (Below w.heap.size w wk) := bx0.trans (hk3.mono bx0.size)
        clear hk2 hk3 bx0
        go_wp2
        go_meet
        case rel => exact ⟨_, n2, rfl, HB.out, HW.out⟩
    case rest =>
      clear bx0 hO
      obtain ⟨ar2, cr2, rfl, hO, bx⟩ := hcut
      clear h0 h2
      go_wp2_with fail
      refine (cloneSlices_any (h1.below bx) (by omega) HL1.out (fun j hj => (e1 j hj).below bx)).mono ?_
      rintro e wa ⟨hc, ba⟩
      obtain ⟨ar, br, Ar, rfl, hrow1, hel1⟩ := hc.uniform
      clear hc
      have bxa := bx.trans (ba.mono bx.size)
      go_wp2_with fail
      refine (cloneSlices_any (h3.below bxa) (by omega) HL3.out (fun j hj => (e3 j hj).below bxa)).mono ?_
      rintro e wb ⟨hc, bb⟩
      obtain ⟨aa, bb3, Aa, rfl, hrow3, hel3⟩ := hc.uniform
      clear hc
      have bxb := bxa.trans (bb.mono bxa.size)
      have s3 : SlRow wb aa n3 Aa L3 L3 := fun hp => by
        obtain ⟨_, e, hr⟩ := hrow3 hp
        rw [e]; exact row_slrow (G := fun r => ⟨Aa r, L3 r, L3 r⟩) hr hp
      go_wp2_with fail
      refine (cloneSlices_any s3 (by omega) HL3.out (fun j hj => (hel3 j hj).2.1)).mono ?_
      rintro e wd ⟨hc, bd⟩
      obtain ⟨ae, be, Ae, rfl, hrowe, hele⟩ := hc.uniform
      clear hc s3
      have bxd := bxb.trans (bd.mono bxb.size)
      -- the blocks lie apart
      have hOd : ByteRow wd ao n0 o := ((hO.below ba).below bb).below bd
      have hao : 0 < n0 → ∀ b off, ao = some ⟨b, off, none⟩ → b < wc.heap.size := fun hp b off e => by
        obtain ⟨b', off', e', hb', _⟩ := hO.at hp
        rw [e] at e'; cases e'; exact hb'
      have hr1 : 0 < n1 → br < wa.heap.size := fun hp => (hrow1 hp).2.2.lt
      have hr3 : 0 < n3 → bb3 < wb.heap.size := fun hp => (hrow3 hp).2.2.lt
      have hB3 : 0 < n3 → wa.heap.size ≤ bb3 := fun hp => (hrow3 hp).1
      have hBe : 0 < n3 → wb.heap.size ≤ be := fun hp => (hrowe hp).1
      have z1 := ba.size
      have z2 := bb.size
      have z3 := bd.size
      have z0 := bx.size
      clear h1 e1 h3 e3
      obtain ⟨R, hRd⟩ : ∃ R : Nat → Rn, R = fun r => ⟨Ar r, L1 r, L1 r⟩ := ⟨_, rfl⟩
      obtain ⟨G3, hG3⟩ : ∃ R : Nat → Rn, R = fun r => ⟨Aa r, L3 r, L3 r⟩ := ⟨_, rfl⟩
      have RL : ∀ j, j < n1 → (R j).len = L1 j ∧ (R j).len ≤ (R j).cap := fun j _ => by rw [hRd]; exact ⟨rfl, Nat.le_refl _⟩
      have RA : ∀ j, j < n1 → 0 < (R j).len → ∃ b off, (R j).a = some ⟨b, off, none⟩ := fun j hj hp => by
        rw [hRd] at hp ⊢
        obtain ⟨b, off, e, _⟩ := (hel1 j hj).2.1.1 hp
        exact ⟨b, off, e⟩
      have q1 : 0 < n1 → ar = some ⟨br, 0, none⟩ ∧ wd.rowIs br 22 n1 (fun r => (R r).val) := fun hp => by
        obtain ⟨_, e, hr⟩ := hrow1 hp
        rw [hRd]
        exact ⟨e, (hr.of_block (bb.block br (hr1 hp))).of_block (bd.block br (by have := hr1 hp; omega))⟩
      have q3 : 0 < n3 → aa = some ⟨bb3, 0, none⟩ ∧ wd.rowIs bb3 22 n3 (fun r => (G3 r).val) := fun hp => by
        obtain ⟨_, e, hr⟩ := hrow3 hp
        rw [hG3]
        exact ⟨e, hr.of_block (bd.block bb3 (hr3 hp))⟩
      have qe : 0 < n3 → ae = some ⟨be, 0, none⟩ ∧ wd.rowIs be 22 n3 (fun r => .slice (Ae r) (L3 r) (L3 r)) := fun hp => by
        obtain ⟨_, e, hr⟩ := hrowe hp
        exact ⟨e, hr⟩
      have el3 : ∀ r, r < n3 → ByteRow wd (Aa r) (L3 r) (O3 r) ∧ (∀ b off, Aa r = some ⟨b, off, none⟩ → bb3 < b) ∧ ByteRow wd (Ae r) (L3 r) (O3 r) ∧ (∀ b off, Ae r = some ⟨b, off, none⟩ → be < b) ∧ (Aa r = none ↔ Ae r = none) := fun r hr => by
        obtain ⟨_, u2, u3⟩ := hel3 r hr
        obtain ⟨v1, v2, v3⟩ := hele r hr
        exact ⟨u2.below bd, fun b off e => (u3 _ e).1, v2, fun b off e => (v3 _ e).1, v1.symm⟩
      have HG3 : Hid (G3 = fun r => ⟨Aa r, L3 r, L3 r⟩) := hG3
      clear hRd hG3 hrow1 hrow3 hrowe hel1 hel3 hele ba bb bd bx bxa bxb hO
      have HZ1 : Hid (Calls Try.prog 9 #[.slice ao n0 co, .slice ar n1 n1, .slice ar2 n2 cr2, .slice aa n3 n3] wd fun e w' => e = .returned (.slice aa n3 n3) ∧ wd.grownBy w' (rowOf n3 bb3) ∧
          (0 < n3 → w'.rowIs bb3 22 n3 (fun r => (fl o R ⟨some ⟨wd.heap.size + 1, 0, none⟩, 0, 0⟩ G3 n0 r).val))) :=
        zzfill_any hOd (fun hp => ⟨br, 0, (q1 hp).1, fun hn => by have := hr1 hp; have := hB3 hn; omega, fun i hi => by rw [Nat.zero_add]; exact (q1 hp).2.cell hi⟩) f0 RL HOK.out hkn (by omega)
          (fun hp b off e hn => by have := hao hp b off e; have := hB3 hn; omega) q3
      go_wp2_with fail
      refine HZ1.out.mono ?_
      rintro e wf ⟨rfl, hgw, hrw⟩
      have hgb : Below w.heap.size w wf := bxd.trans (grown_below hgw bxd.size (fun hp => by have := hB3 hp; omega))
      have hOf : ByteRow wf ao n0 o := hOd.grown hgw (fun hp b off e => rowOf_ne (fun hn => by have := hao hp b off e; have := hB3 hn; omega))
      have q1f : 0 < n1 → ar = some ⟨br, 0, none⟩ ∧ wf.rowIs br 22 n1 (fun r => (R r).val) := fun hp =>
        ⟨(q1 hp).1, (q1 hp).2.of_block (hgw.block br (q1 hp).2.lt (rowOf_ne (fun hn => by have := hr1 hp; have := hB3 hn; omega)))⟩
      have qef : 0 < n3 → ae = some ⟨be, 0, none⟩ ∧ wf.rowIs be 22 n3 (fun r => .slice (Ae r) (L3 r) (L3 r)) := fun hp =>
        ⟨(qe hp).1, (qe hp).2.of_block (hgw.block be (qe hp).2.lt (rowOf_ne (fun hn => by have := hr3 hp; have := hBe hp; omega)))⟩
      have qaf : 0 < n3 → aa = some ⟨bb3, 0, none⟩ := fun hp => (q3 hp).1
      have el3f : ∀ r, r < n3 → ByteRow wf (Aa r) (L3 r) (O3 r) ∧ ByteRow wf (Ae r) (L3 r) (O3 r) ∧ (Aa r = none ↔ Ae r = none) := fun r hr => by
        obtain ⟨u1, u2, u3, u4, u5⟩ := el3 r hr
        have := hr3 (by omega)
        have := hBe (by omega)
        exact ⟨u1.grown hgw (fun _ b off e => rowOf_ne (fun _ => by have := u2 b off e; omega)), u3.grown hgw (fun _ b off e => rowOf_ne (fun _ => by have := u4 b off e; omega)), u5⟩
      clear q1 q3 qe hOd HZ1 bxd hgw el3 hao hr1 hr3 hB3 hBe z0 z1 z2 z3
      have hpp := nptr28
      have hsl := nil22
      have hnp := nptr32
      go_upto_region 23 with fail
      go_cut [85] (fun s wx => s = .bool false ∧ Below wf.heap.size wf wx)
      case first =>
        by_cases hn3 : 0 < n3
        · have ea := qaf hn3
          subst ea
          have hd : (0 : Int) < (n3 : Int) := by omega
          clear qaf qef q1f hrw el3f RL RA hOf hgb
          go_quiet (fail)
          go_wp2
          go_meet
          case rel => exact ⟨rfl, below_drewN (Below.refl _ _) _⟩
        · have hd : decide ((0 : Int) < (n3 : Int)) = false := by simp; omega
          clear qaf qef q1f hrw el3f RL RA hOf hgb
          go_quiet (fail)
          go_wp2
          go_meet
          case rel => exact ⟨rfl, below_drewN (Below.refl _ _) _⟩
      case rest =>
        obtain ⟨rfl, bwc⟩ := hcut
        have hk0 := kn_le o n0
        go_wp2_with fail
        go_loopw [13, 14] (fun c i wr => ∃ p : Nat, p ≤ n0 ∧ i = .int .i64 p ∧ c = .int .i64 (kn o p) ∧ Below wf.heap.size wf wr) (fun _ i _ => n0 - (intOf i).toNat)
        case atStart => exact ⟨0, Nat.zero_le _, rfl, rfl, bwc⟩
        case round =>
          obtain ⟨p, hp, rfl, rfl, hbr⟩ := hrel
          clear bwc
          have hle := kn_le o p
          have hle2 := jn_le o p
          have hOr := hOf.below hbr
          by_cases hlt : p < n0
          · obtain ⟨b, off, eo, hb, hcell⟩ := hOr.at hlt
            subst eo
            have g := hcell p hlt
            have hx := hOr.2 p
            clear hcell
            by_cases e : o p = 129
            · have K : Hid (kn o (p + 1) = kn o p) := kn_run o p e
              rw [e] at g
              clear e hx qaf qef q1f hrw el3f RL RA hOf hOr hgb
              go_wp2
              go_roundw
              case rel => exact ⟨p + 1, by omega, by go_num, by rw [K.out], hbr⟩
              case measure => simp [intOf]; omega
            · have K : Hid (kn o (p + 1) = kn o p + 1) := kn_arg o p e
              have hk : kn o p < n3 := by
                have h1 := kn_mono o (show p + 1 ≤ n0 by omega)
                rw [kn_arg o p e] at h1
                omega
              have hn3 : 0 < n3 := by omega
              have ea := qaf hn3
              subst ea
              have rA := (hrw hn3).of_block (hbr.block bb3 (hrw hn3).lt)
              have ga : wr.cell? ⟨bb3, kn o p, none⟩ = some (fl o R ⟨some ⟨wd.heap.size + 1, 0, none⟩, 0, 0⟩ G3 n0 (kn o p)).val := rA.cell hk
              rw [fl_at _ _ hlt e] at ga
              clear rA
              by_cases e' : o p = 130
              · have hj := (HOK.out p hlt).2.1 e'
                rw [pv_apart _ _ _ p e'] at ga
                have er := (q1f (by omega)).1
                subst er
                have rR := (q1f (by omega)).2.of_block (hbr.block br (q1f (by omega)).2.lt)
                have gr : wr.cell? ⟨br, jn o p, none⟩ = some (R (jn o p)).val := rR.cell hj
                have hs : 0 < (R (jn o p)).len → ∃ x, (R (jn o p)).a = some x := fun hp => by
                  obtain ⟨b', off', e2⟩ := RA _ hj hp
                  exact ⟨_, e2⟩
                have hl2 : (R (jn o p)).len ≤ 1048576 := by rw [(RL _ hj).1]; exact HL1.out _ hj
                have ga' : wr.cell? ⟨bb3, kn o p, none⟩ = some (.slice (R (jn o p)).a (R (jn o p)).len (R (jn o p)).cap) := ga
                have gr' : wr.cell? ⟨br, jn o p, none⟩ = some (.slice (R (jn o p)).a (R (jn o p)).len (R (jn o p)).cap) := gr
                rw [e'] at g
                clear e e' hx qaf qef q1f hrw el3f RL RA hOf hgb ga gr rR
                revert hs hl2 ga' gr'
                generalize (R (jn o p)).a = va
                generalize (R (jn o p)).len = vl
                generalize (R (jn o p)).cap = vc
                intro hs hl2 ga' gr'
                have hj2 : (jn o p : Int) < (n1 : Int) := by omega
                go_wp2_with (first
                  | (go_at_call 10; refine (argsBefore_any p hOr (by omega) (by omega)).mono ?_; rintro e x0 ⟨rfl, rfl⟩)
                  | (go_at_call 12; refine (roomBefore_any p hOr (by omega) (by omega)).mono ?_; rintro e x0 ⟨rfl, rfl⟩)
                  | (go_at_call 11; refine (sameSlice_any va va vl vc Iff.rfl (fun h => ⟨rfl, hs h⟩) hl2).mono ?_; rintro e x0 ⟨rfl, q, rfl⟩))
                go_roundw
                case rel => exact ⟨p + 1, by omega, by go_num, by rw [K.out]; go_num, below_drewN hbr _⟩
                case measure => simp [intOf]; omega
              · rw [pv_len _ _ _ p e'] at ga
                have P := place_len hOf.2 RL RA HOK.out ⟨wd.heap.size + 1, 0, none⟩ hlt e e'
                have ga' : wr.cell? ⟨bb3, kn o p, none⟩ = some (.slice (rn o R ⟨some ⟨wd.heap.size + 1, 0, none⟩, 0, 0⟩ p).a (o p).toNat (o p).toNat) := ga
                clear ga
                have eb : (o p == 129) = false := by simpa using e
                have eb' : (o p == 130) = false := by simpa using e'
                obtain ⟨y, ey⟩ : ∃ y : Nat, o p = (y : Int) := ⟨(o p).toNat, by omega⟩
                have hy : (o p).toNat = y := by omega
                rw [hy] at ga' P
                rw [ey] at g hx eb eb'
                rcases P with ⟨el, ey0, er⟩ | ⟨m, el, hm, hj, hna, hpos⟩
                · rw [er] at ga'
                  subst ey0
                  clear e e' ey hy hx qaf qef q1f hrw el3f RL RA hOf hgb er
                  have ga2 : wr.cell? ⟨bb3, kn o p, none⟩ = some (.slice (some ⟨wd.heap.size + 1, 0, none⟩) 0 0) := ga'
                  clear ga'
                  go_wp2_with (first
                    | (go_at_call 10; refine (argsBefore_any p hOr (by omega) (by omega)).mono ?_; rintro e x0 ⟨rfl, rfl⟩)
                    | (go_at_call 13; refine (lastRun_any p hOr (by omega) (by omega)).mono ?_; rintro e x0 ⟨rfl, rfl⟩))
                  go_roundw
                  case rel => exact ⟨p + 1, by omega, by go_num, by rw [K.out]; go_num, hbr⟩
                  case measure => simp [intOf]; omega
                · have er := (q1f (by omega)).1
                  subst er
                  have rR := (q1f (by omega)).2.of_block (hbr.block br (q1f (by omega)).2.lt)
                  have gr : wr.cell? ⟨br, jn o m, none⟩ = some (.slice (R (jn o m)).a (R (jn o m)).len (R (jn o m)).cap) := rR.cell hj
                  have hl2 : (R (jn o m)).len ≤ 1048576 := by rw [(RL _ hj).1]; exact HL1.out _ hj
                  have hj2 : (jn o m : Int) < (n1 : Int) := by omega
                  have hle3 := jn_le o m
                  have hcb := cb_le o m p
                  have hnb : (rn o R ⟨some ⟨wd.heap.size + 1, 0, none⟩, 0, 0⟩ p).a.isNone = (R (jn o m)).a.isNone := by
                    revert hna
                    generalize (rn o R ⟨some ⟨wd.heap.size + 1, 0, none⟩, 0, 0⟩ p).a = u
                    generalize (R (jn o m)).a = v
                    intro hna
                    cases u <;> cases v <;> simp at hna ⊢
                  clear e e' ey hy qaf qef q1f hrw el3f RL RA hOf hgb rR hna
                  revert ga' gr hl2 hnb hpos
                  generalize (rn o R ⟨some ⟨wd.heap.size + 1, 0, none⟩, 0, 0⟩ p).a = ga
                  generalize (R (jn o m)).a = va
                  generalize (R (jn o m)).len = vl
                  generalize (R (jn o m)).cap = vc
                  intro ga' hpos gr hl2 hnb
                  go_upto_region 43 with (first
                    | (go_at_call 10; refine (argsBefore_any p hOr (by omega) (by omega)).mono ?_; rintro e x0 ⟨rfl, rfl⟩)
                    | (go_at_call 13; refine (lastRun_any p hOr (by omega) (by omega)).mono ?_; rintro e x0 ⟨rfl, rfl⟩)
                    | (go_at_call 12; refine (roomBefore_any m hOr (by omega) (by omega)).mono ?_; rintro e x0 ⟨rfl, rfl⟩)
                    | (go_at_call 14; refine (carvedBetween_any m p hOr (by omega) (by omega) (by omega)).mono ?_; rintro e x0 ⟨rfl, rfl⟩))
                  go_cut [169] (fun s wx => s = .bool false ∧ Below wf.heap.size wf wx)
                  case first =>
                    by_cases hy0 : 0 < y
                    · obtain ⟨b', off', ev, eg, hcl⟩ := hpos hy0
                      subst ev
                      subst eg
                      have hd : (0 : Int) < (y : Int) := by omega
                      have hd2 : (cb o m p : Int) < (vl : Int) := by omega
                      clear hpos hOr
                      go_quiet (fail)
                      go_wp2
                      go_meet
                      case rel => exact ⟨rfl, below_drewN hbr _⟩
                    · have hd : decide ((0 : Int) < (y : Int)) = false := by simp; omega
                      clear hpos hOr
                      go_quiet (fail)
                      go_wp2
                      go_meet
                      case rel => exact ⟨rfl, below_drewN hbr _⟩
                  case rest =>
                    obtain ⟨rfl, bw2⟩ := hcut
                    clear hpos hOr hbr
                    go_wp2
                    go_roundw
                    case rel => exact ⟨p + 1, by omega, by go_num, by rw [K.out]; go_num, bw2⟩
                    case measure => simp [intOf]; omega
          · have epn : p = n0 := by omega
            subst epn
            clear hOr hOf q1f RL RA
            have hbeyond : ∀ z, kn o p ≤ z → fl o R ⟨some ⟨wd.heap.size + 1, 0, none⟩, 0, 0⟩ G3 p z = ⟨Aa z, L3 z, L3 z⟩ := fun z hz => by
              rw [fl_beyond _ _ hz, HG3.out]
            have hres : ∀ z, kn o p ≤ z → z < n3 → wf.cell? ⟨bb3, z, none⟩ = some (.slice (Aa z) (L3 z) (L3 z)) := fun z h1 h2 => by
              have := (hrw (by omega)).cell h2
              rw [hbeyond z h1] at this
              exact this
            have hwant : ∀ z, z < n3 → wf.cell? ⟨be, z, none⟩ = some (.slice (Ae z) (L3 z) (L3 z)) := fun z h2 => (qef (by omega)).2.cell h2
            have hbb : 0 < n3 → bb3 < wf.heap.size := fun h => (hrw h).lt
            have hbe : 0 < n3 → be < wf.heap.size := fun h => (qef h).2.lt
            have hea : 0 < n3 → ae = some ⟨be, 0, none⟩ := fun h => (qef h).1
            clear hbeyond hrw qef
            have HRES : Hid (∀ z, kn o p ≤ z → z < n3 → wf.cell? ⟨bb3, z, none⟩ = some (.slice (Aa z) (L3 z) (L3 z))) := hres
            have HWANT : Hid (∀ z, z < n3 → wf.cell? ⟨be, z, none⟩ = some (.slice (Ae z) (L3 z) (L3 z))) := hwant
            clear hres hwant
            go_wp2_with fail
            go_loopw [20] (fun i wr => ∃ k : Nat, kn o p ≤ k ∧ k ≤ n3 ∧ i = .int .i64 k ∧ Below wf.heap.size wf wr) (fun i _ => n3 - (intOf i).toNat)
            case atStart => exact ⟨kn o p, Nat.le_refl _, hkn, rfl, hbr⟩
            case round =>
              clear hbr
              obtain ⟨k, hk1, hk2, rfl, hbr2⟩ := hrel
              by_cases hlt2 : k < n3
              · have hn3 : 0 < n3 := by omega
                have ea := qaf hn3
                have ee := hea hn3
                subst ea
                subst ee
                have g1 := (hbr2.cell (p := ⟨bb3, k, none⟩) (hbb hn3)).trans (HRES.out k hk1 hlt2)
                have g2 := (hbr2.cell (p := ⟨be, k, none⟩) (hbe hn3)).trans (HWANT.out k hlt2)
                obtain ⟨m1, m2, m3⟩ := el3f k hlt2
                have m1 := m1.below hbr2
                have m2 := m2.below hbr2
                have m4 := HL3.out k hlt2
                clear HRES HWANT el3f qaf hea hbb hbe hgb
                revert g1 g2 m1 m2 m3 m4
                generalize Aa k = ua
                generalize Ae k = ue
                generalize L3 k = ul
                generalize O3 k = uo
                intro g1 g2 m3 m1 m2 m4
                have hk3 : (k : Int) < (n3 : Int) := by omega
                go_wp2_with fail
                go_quiet ((go_at_call 15; exact Calls.quiet_of (sameBytesQ m3 (m1.below (below_drewN (Below.refl _ _) _)) (m2.below (below_drewN (Below.refl _ _) _)) m4)))
                go_wp2
                go_roundw
                case rel => exact ⟨k + 1, by omega, by omega, by go_num, below_drewN hbr2 _⟩
                case measure => simp [intOf]; omega
              · have HW : Hid (Below w.heap.size w wr) := hgb.trans (hbr2.mono hgb.size)
                clear HRES HWANT el3f qaf hea hbb hbe hgb hbr2
                go_wp2
                go_ret
                exact ⟨rfl, HW.out⟩
end Go.Proofs.Qxb6627947a
