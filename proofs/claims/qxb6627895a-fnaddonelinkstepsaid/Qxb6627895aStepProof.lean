/-
  The proof of 'Rows.FnAddOneLinkStepSaid': the frame by the kit's own program, the walk by hand.
-/
import Derived.Test.Qxb6627895aRows
import Derived.WalkKit
import Derived.ProofKit
import Derived.OpenShut
import Derived.ShutString
import Derived.ChangeOld
import Derived.Below
import Derived.Test.Qxb6627895aParts
import Derived.Deep.RegionWith
namespace Go.Proofs.Qxb6627895a.fnAddOneLinkStep
open Go.ChangeShapes Go.WideShapes Go.ChangeAt Go.RowKit
open Go.ChangeMaps (open_string shut_string)
set_option linter.unusedVariables false

theorem own : ownKnob Try.prog.godebug = none := by kernel_rfl
theorem laidOut : laidOutB Try.prog = true := by kernel_rfl

/-! ### THE WALK -/
set_option maxHeartbeats 4000000 in
set_option maxRecDepth 10000 in
theorem walk_main (a0 : Option Addr) (len0 cap0 : Nat) (z0 : List Int) (a1 : Option Addr) (len1 cap1 : Nat) (z1 : List Int) (a2 : Int) (a3 : Int) (a4 : Int) (a5 : Int) (w : World) (w0 : IsRow .i64 w a0 len0 cap0 z0) (w1 : IsRow .i64 w a1 len1 cap1 z1) (w2 : (Lit.int .i64 a2).wf = true) (w3 : (Lit.int .i64 a3).wf = true) (w4 : (Lit.int .i64 a4).wf = true) (w5 : (Lit.int .i64 a5).wf = true)
    (h0 : len0 ≤ 4096) (h1 : len1 ≤ 4096) :
    Calls Try.prog 4 #[.slice a0 len0 cap0, .slice a1 len1 cap1, .int .i64 a2, .int .i64 a3, .int .i64 a4, .int .i64 a5] w fun e w' => e = .returned (.bool true) ∧ Below w.heap.size w w' := by
  have hz : zzB len0 len1 = true := by simp [zzB]; omega
  obtain ⟨n, hn⟩ : ∃ n, min len0 len1 = n := ⟨_, rfl⟩
  have hn0 : n ≤ len0 := by omega
  have hn1 : n ≤ len1 := by omega
  go_enter Try.func4, Try.ntmps4
  go_wp2_with (first
    | (go_at_call 14; refine (zz14 _ _ _ _ _ _ _ _ _ _ _).mono ?_; rintro e w' ⟨rfl, rfl⟩)
    | (go_at_call 6; refine (minLen_any _ _ _ _ _ _ _).mono ?_; rintro e w' ⟨rfl, rfl⟩))
  clear hn hz
  have hLs : Lk (w'.alloc (.cells #[.map none, .map none] 27)) w'.heap.size w'.heap.size 0 (script z0 z1 0) := ⟨Nat.le_refl _, .inl ⟨rfl, by simp, by simp, by simp, by simp⟩⟩
  go_loopw [15] (fun i wr => ∃ k : Nat, k ≤ n ∧ i = .int .i64 k ∧ Lk wr w'.heap.size w'.heap.size k (script z0 z1 k) ∧ Below w'.heap.size w' wr) (fun i _ => n - (intOf i).toNat)
  case atStart => exact ⟨0, Nat.zero_le _, rfl, hLs, (Below.refl _ _).alloc (Nat.le_refl _) _⟩
  case round =>
    clear hLs
    obtain ⟨k, hk, rfl, hL, hbel⟩ := hrel
    by_cases hlt : k < n
    · obtain ⟨x, hx⟩ : ∃ x, x = z0.getD k 0 := ⟨_, rfl⟩
      obtain ⟨y, hy⟩ : ∃ y, y = z1.getD k 0 := ⟨_, rfl⟩
      have hwx := w0.wf k
      have hwy := w1.wf k
      obtain ⟨b0, o0, rfl, hb0, hc0⟩ := w0.at (j := k) (by omega)
      obtain ⟨b1, o1, rfl, hb1, hc1⟩ := w1.at (j := k) (by omega)
      have g0 : wr.cell? ⟨b0, o0 + k, none⟩ = some (.int .i64 x) := by rw [hx]; exact (hbel.cell (p := ⟨b0, o0 + k, none⟩) hb0).trans (hc0 k (by omega))
      have g1 : wr.cell? ⟨b1, o1 + k, none⟩ = some (.int .i64 y) := by rw [hy]; exact (hbel.cell (p := ⟨b1, o1 + k, none⟩) hb1).trans (hc1 k (by omega))
      have HS : Hid (script z0 z1 (k + 1) = (x, y) :: script z0 z1 k) := by rw [hx, hy]; rfl
      rw [← hx] at hwx
      rw [← hy] at hwy
      have hLd : Lk wr.drew w'.heap.size w'.heap.size k (script z0 z1 k) := hL.below (Below.refl _ _).drew
      have hBd : w'.heap.size ≤ wr.drew.heap.size := hbel.size
      have hkm : k < maxLen := by unfold maxLen; omega
      clear hx hy hc0 hc1 w0 w1
      go_wp2_with fail
      go_region_with (go_at_call 7; refine (Add_any x y hBd hLd hwx hwy hkm).mono ?_; rintro e wa ⟨rfl, hL2, hb2⟩)
      all_goals
        go_wp2
        go_roundw
        case rel => exact ⟨k + 1, by omega, by go_num, by rw [HS.out]; exact hL2, hbel.trans ((Below.refl _ _).drew.trans hb2)⟩
        case measure => simp [intOf]; omega
    · have hkn : k = n := by omega
      subst hkn
      have hlen : (script z0 z1 k).length ≤ 4096 := by rw [script_length]; omega
      have hkm : k < maxLen := by unfold maxLen; omega
      clear hlt hk hn0 hn1 h0 h1 w0 w1
      revert hL hlen
      generalize script z0 z1 k = L
      intro hL hlen
      obtain ⟨r1, r2, c0, c1, T1, T2, hbl⟩ := hL.fields
      have hBr : w'.heap.size ≤ wr.heap.size := hbel.size
      obtain ⟨bAB, eAB⟩ : ∃ x : Bool, decide ((a2, a3) ∈ L) = x := ⟨_, rfl⟩
      obtain ⟨bPQ, ePQ⟩ : ∃ x : Bool, decide ((a4, a5) ∈ L) = x := ⟨_, rfl⟩
      have eQP : decide ((a5, a4) ∈ flip2 L) = bPQ := by rw [← ePQ]; exact decide_eq_decide.2 (mem_flip L a4 a5)
      go_wp2_with (first
        | (go_at_call 8; refine (zzcontained_any c0).mono ?_; rintro e x0 ⟨rfl, rfl⟩)
        | (go_at_call 9; refine (zzcontainers_any c1).mono ?_; rintro e x0 ⟨rfl, rfl⟩))
      refine (hasLink_any a2 a3 T1 w2 w3).mono ?_
      rintro e x1 ⟨rfl, bx1⟩
      have T1a := T1.below bx1
      clear c0 c1
      go_wp2_with fail
      refine (hasLink_any a4 a5 T1a w4 w5).mono ?_
      rintro e x2 ⟨rfl, bx2⟩
      have bx12 := bx1.trans (bx2.mono bx1.size)
      have T2b := T2.below bx12
      go_wp2_with fail
      refine (hasLink_any a5 a4 T2b w5 w4).mono ?_
      rintro e x3 ⟨rfl, bx3⟩
      have bx := bx12.trans (bx3.mono bx12.size)
      have hL3 := hL.below bx
      have T1c := T1.below bx
      have T2c := T2.below bx
      have hbel3 : Below w'.heap.size w' x3 := hbel.trans (bx.mono hbel.size)
      clear bx12 bx1 bx2 bx3 T1a T2b T1 T2 hL bx hbel hbl
      have l1 := T1c.len
      have l2 := T2c.len
      obtain ⟨rA, kA, lA⟩ := T1c.look w2
      obtain ⟨rB, kB, lB⟩ := T2c.look w3
      obtain ⟨rP, kP, lP⟩ := T1c.look w4
      obtain ⟨rQ, kQ, lQ⟩ := T2c.look w5
      clear T1c T2c
      go_wp2_with fail
      refine (Add_any a2 a3 hbel3.size hL3 w2 w3 hkm).mono ?_
      rintro e x4 ⟨rfl, hL4, bx4⟩
      have hbel4 := hbel3.trans bx4
      have F := step_facts L a2 a3 a4 a5
      revert hL4 F
      generalize ((a2, a3) :: L) = L'
      intro hL4 F
      obtain ⟨e1, e2, e3, e4, e5, e6, e7, e8, e9, e10, e11⟩ := F
      obtain ⟨r1', r2', c0', c1', T1', T2', _⟩ := hL4.fields
      clear l1 l2 kA lA kB lB kP lP kQ lQ
      go_wp2_with (first
        | (go_at_call 8; refine (zzcontained_any c0').mono ?_; rintro e x0 ⟨rfl, rfl⟩)
        | (go_at_call 9; refine (zzcontainers_any c1').mono ?_; rintro e x0 ⟨rfl, rfl⟩))
      refine (hasLink_any a2 a3 T1' w2 w3).mono ?_
      rintro e x5 ⟨rfl, bx5⟩
      have T2'a := T2'.below bx5
      clear c0' c1'
      go_wp2_with fail
      refine (hasLink_any a3 a2 T2'a w3 w2).mono ?_
      rintro e x6 ⟨rfl, bx6⟩
      have bx := bx5.trans (bx6.mono bx5.size)
      have T1'c := T1'.below bx
      have T2'c := T2'.below bx
      have hbel6 : Below w'.heap.size w' x6 := hbel4.trans (bx.mono hbel4.size)
      clear bx5 bx6 T2'a T1' T2' bx hbel3 hbel4 bx4 hL3 hL4
      have l1 := T1'c.len
      have l2 := T2'c.len
      obtain ⟨rA', kA, lA⟩ := T1'c.look w2
      obtain ⟨rB', kB, lB⟩ := T2'c.look w3
      obtain ⟨rP', kP, lP⟩ := T1'c.look w4
      obtain ⟨rQ', kQ, lQ⟩ := T2'c.look w5
      have p1 := dn_parts_le L a2
      have p2 := dn_parts_le (flip2 L) a3
      have p3 := dn_parts_le L a4
      have p4 := dn_parts_le (flip2 L) a5
      have p5 := dn_fst_le L
      have p6 := dn_fst_le (flip2 L)
      rw [flip_length] at p2 p4 p6
      rw [eAB] at e3 e4 e11
      rw [ePQ] at e9 e10
      generalize dn (parts L a2) = nA at *
      generalize dn (parts (flip2 L) a3) = nB at *
      generalize dn (parts L a4) = nP at *
      generalize dn (parts (flip2 L) a5) = nQ at *
      generalize dn (List.map Prod.fst L) = nD at *
      generalize dn (List.map Prod.fst (flip2 L)) = nU at *
      generalize dn (parts L' a2) = mA at *
      generalize dn (parts (flip2 L') a3) = mB at *
      generalize dn (parts L' a4) = mP at *
      generalize dn (parts (flip2 L') a5) = mQ at *
      generalize dn (List.map Prod.fst L') = mD at *
      generalize dn (List.map Prod.fst (flip2 L')) = mU at *
      have hp : (((a4 == a2) = true ∧ (a4 != a2) = false) ∨ ((a4 == a2) = false ∧ (a4 != a2) = true ∧ mP = nP)) := by
        by_cases h : a4 = a2
        · exact .inl ⟨by simpa using h, by simpa using h⟩
        · exact .inr ⟨by simpa using h, by simpa using h, e7 h⟩
      have hq : (((a5 == a3) = true ∧ (a5 != a3) = false) ∨ ((a5 == a3) = false ∧ (a5 != a3) = true ∧ mQ = nQ)) := by
        by_cases h : a5 = a3
        · exact .inl ⟨by simpa using h, by simpa using h⟩
        · exact .inr ⟨by simpa using h, by simpa using h, e8 h⟩
      have hg : (bAB = true ∧ mA = nA ∧ mB = nB ∧ 0 < nA ∧ 0 < nB) ∨ (bAB = false ∧ mA = nA + 1 ∧ mB = nB + 1) := by
        cases bAB
        · exact .inr ⟨rfl, by simpa using e3, by simpa using e4⟩
        · exact .inl ⟨rfl, by simpa using e3, by simpa using e4, (e11 rfl).1, (e11 rfl).2⟩
      have hA : (nA = 0 ∧ mD = nD + 1) ∨ (0 < nA ∧ mD = nD) := by
        by_cases h : nA = 0
        · exact .inl ⟨h, by simpa [h] using e5⟩
        · exact .inr ⟨by omega, by simpa [h] using e5⟩
      have hB : (nB = 0 ∧ mU = nU + 1) ∨ (0 < nB ∧ mU = nU) := by
        by_cases h : nB = 0
        · exact .inl ⟨h, by simpa [h] using e6⟩
        · exact .inr ⟨by omega, by simpa [h] using e6⟩
      clear e3 e4 e5 e6 e7 e8 e11 eAB ePQ eQP
      rcases hg with ⟨rfl, rfl, rfl, hA0, hB0⟩ | ⟨rfl, rfl, rfl⟩ <;> rcases hA with ⟨hA1, rfl⟩ | ⟨hA1, rfl⟩ <;> rcases hB with ⟨hB1, rfl⟩ | ⟨hB1, rfl⟩ <;>
        rcases hp with ⟨hp, hp'⟩ | ⟨hp, hp', rfl⟩ <;> rcases hq with ⟨hq, hq'⟩ | ⟨hq, hq', rfl⟩
      all_goals
        try (exfalso; omega)
      all_goals
        rw [hp, hq] at e9 e10
        simp only [Bool.and_true, Bool.and_false, Bool.or_false, Bool.or_true] at e9 e10
      all_goals
        go_wp2_with fail
        cases bPQ
        all_goals
          try simp only [Bool.true_or, Bool.false_or] at e9 e10
          refine (hasLink_any a4 a5 T1'c w4 w5).mono ?_
          rintro e x7 ⟨rfl, bx7⟩
          have T2'd := T2'c.below bx7
          go_wp2_with fail
          refine (hasLink_any a5 a4 T2'd w5 w4).mono ?_
          rintro e x8 ⟨rfl, bx8⟩
          go_wp2
          go_ret
          exact ⟨rfl, hbel6.trans ((bx7.trans (bx8.mono bx7.size)).mono hbel6.size)⟩

set_option maxRecDepth 10000 in
theorem walk (a0 : Option Addr) (len0 cap0 : Nat) (z0 : List Int) (a1 : Option Addr) (len1 cap1 : Nat) (z1 : List Int) (a2 : Int) (a3 : Int) (a4 : Int) (a5 : Int) (w : World) (w0 : IsRow .i64 w a0 len0 cap0 z0) (w1 : IsRow .i64 w a1 len1 cap1 z1) (w2 : (Lit.int .i64 a2).wf = true) (w3 : (Lit.int .i64 a3).wf = true) (w4 : (Lit.int .i64 a4).wf = true) (w5 : (Lit.int .i64 a5).wf = true) :
    Calls Try.prog 4 #[.slice a0 len0 cap0, .slice a1 len1 cap1, .int .i64 a2, .int .i64 a3, .int .i64 a4, .int .i64 a5] w fun e w' => e = .returned (.bool true) ∧ Below w.heap.size w w' := by
  cases hz : zzB len0 len1
  · clear w0 w1 w2 w3 w4 w5
    go_enter Try.func4, Try.ntmps4
    go_wp2_with (go_at_call 14; refine (zz14 _ _ _ _ _ _ _ _ _ _ _).mono ?_; rintro e w' ⟨rfl, rfl⟩)
    go_ret
    exact ⟨rfl, Below.refl _ _⟩
  · by_cases h0 : len0 ≤ 4096
    · by_cases h1 : len1 ≤ 4096
      · exact walk_main a0 len0 cap0 z0 a1 len1 cap1 z1 a2 a3 a4 a5 w w0 w1 w2 w3 w4 w5 h0 h1
      · clear w0 w1 w2 w3 w4 w5
        go_enter Try.func4, Try.ntmps4
        go_wp2_with (go_at_call 14; refine (zz14 _ _ _ _ _ _ _ _ _ _ _).mono ?_; rintro e w' ⟨rfl, rfl⟩)
        go_ret
        exact ⟨rfl, Below.refl _ _⟩
    · clear w0 w1 w2 w3 w4 w5
      go_enter Try.func4, Try.ntmps4
      go_wp2_with (go_at_call 14; refine (zz14 _ _ _ _ _ _ _ _ _ _ _).mono ?_; rintro e w' ⟨rfl, rfl⟩)
      go_ret
      exact ⟨rfl, Below.refl _ _⟩

/-! ### THE ROW's STEP: WRITTEN OUT: LEAVE IT -/
set_option maxRecDepth 100000 in
theorem lifted (os : Os) (started : os.Started) (H : Type) (enc : TypeId × Value → H) :
    ReturnsInHanded {} Try.checked os 4 .any (Rows.fnAddOneLinkStepSpec.pre6 enc Try.prog Try.f4 Rows.fnAddOneLinkStepRow.domain false) (Rows.fnAddOneLinkStepSpec.post enc Try.prog Try.f4 false true false false) := by
  refine returnsInHanded_of_change (C := Try.checked) own started (by kernel_rfl) Try.func4
    (ChangeSpec.witness6 (enc := enc) (C := Try.checked) false ⟨#[], #[.slice none 0 0, .slice none 0 0, .int .i64 0, .int .i64 0, .int .i64 0, .int .i64 0], []⟩ 8 (by kernel_rfl) (by kernel_rfl) (by kernel_rfl) (by kernel_rfl)) ?_
  intro W base args ds gs before hval0 hW hcnd _
  have hval : ∀ (j : Nat) t v, Try.f4.params[j]? = some t → args[j]? = some v → Value.okWide Try.prog W .any base t v := hval0
  have hW' := hW
  obtain ⟨p, q, hA0, hV, rfl, hfz, hnd⟩ := hW
  have hA : DataW.TrodAll enc Try.prog W 0 (fun _ => true) true Try.f4.params.toList args.toList ds p := hA0
  rw [Try.params4] at hA hval
  obtain ⟨v0, vs0, d0, ds0, p0, q0, hargs, rfl, rfl, h0, r0⟩ := trodAll_cons hA
  obtain ⟨v1, vs1, d1, ds1, p1, q1, rfl, rfl, rfl, h1, r1⟩ := trodAll_cons r0
  obtain ⟨v2, vs2, d2, ds2, p2, q2, rfl, rfl, rfl, h2, r2⟩ := trodAll_cons r1
  obtain ⟨v3, vs3, d3, ds3, p3, q3, rfl, rfl, rfl, h3, r3⟩ := trodAll_cons r2
  obtain ⟨v4, vs4, d4, ds4, p4, q4, rfl, rfl, rfl, h4, r4⟩ := trodAll_cons r3
  obtain ⟨v5, vs5, d5, ds5, p5, q5, rfl, rfl, rfl, h5, r5⟩ := trodAll_cons r4
  obtain ⟨rfl, rfl, rfl⟩ := trodAll_nil r5
  obtain rfl : args = #[v0, v1, v2, v3, v4, v5] := by cases args; simp_all
  obtain ⟨rfl, rfl⟩ := trodVars_none hV
  obtain ⟨a0, len0, cap0, rfl⟩ := okWide_slice Try.underlying22 (hval 0 22 v0 rfl rfl)
  have k0 := h0
  have lt0 : ∀ x ∈ p0, x.block < W.heap.size := by obtain ⟨m, hm⟩ := k0; exact DataW.trod_lt m _ _ _ hm
  obtain ⟨z0, w0⟩ : ∃ zs, IsRow .i64 W a0 len0 cap0 zs := by
    obtain ⟨fuel, hf⟩ := h0
    rcases open_ints Try.underlying22 Try.underlying2 (by kernel_rfl) hf with ⟨hcs, _⟩ | ⟨x, l, c, zs, hcs, _, hl, hm, hz, _, hcell, hwz⟩
    · simp [Value.cells] at hcs
      obtain ⟨rfl, rfl, rfl⟩ := hcs
      exact ⟨[], .inl ⟨rfl, rfl, rfl, rfl⟩⟩
    · simp [Value.cells] at hcs
      obtain ⟨rfl, rfl, rfl⟩ := hcs
      exact ⟨zs, .inr ⟨_, rfl, hl, hm, by simpa using hz, hcell, hwz⟩⟩
  obtain ⟨a1, len1, cap1, rfl⟩ := okWide_slice Try.underlying22 (hval 1 22 v1 rfl rfl)
  have k1 := h1
  have lt1 : ∀ x ∈ p1, x.block < W.heap.size := by obtain ⟨m, hm⟩ := k1; exact DataW.trod_lt m _ _ _ hm
  obtain ⟨z1, w1⟩ : ∃ zs, IsRow .i64 W a1 len1 cap1 zs := by
    obtain ⟨fuel, hf⟩ := h1
    rcases open_ints Try.underlying22 Try.underlying2 (by kernel_rfl) hf with ⟨hcs, _⟩ | ⟨x, l, c, zs, hcs, _, hl, hm, hz, _, hcell, hwz⟩
    · simp [Value.cells] at hcs
      obtain ⟨rfl, rfl, rfl⟩ := hcs
      exact ⟨[], .inl ⟨rfl, rfl, rfl, rfl⟩⟩
    · simp [Value.cells] at hcs
      obtain ⟨rfl, rfl, rfl⟩ := hcs
      exact ⟨zs, .inr ⟨_, rfl, hl, hm, by simpa using hz, hcell, hwz⟩⟩
  obtain ⟨a2, rfl, rfl, rfl, w2⟩ := open_int Try.underlying2 (hval 2 2 v2 rfl rfl) h2
  obtain ⟨a3, rfl, rfl, rfl, w3⟩ := open_int Try.underlying2 (hval 3 2 v3 rfl rfl) h3
  obtain ⟨a4, rfl, rfl, rfl, w4⟩ := open_int Try.underlying2 (hval 4 2 v4 rfl rfl) h4
  obtain ⟨a5, rfl, rfl, rfl, w5⟩ := open_int Try.underlying2 (hval 5 2 v5 rfl rfl) h5
  clear hA0 hval0
  refine (walk a0 len0 cap0 z0 a1 len1 cap1 z1 a2 a3 a4 a5 W w0 w1 w2 w3 w4 w5).mono fun e W' ⟨he, bel⟩ => ?_
  subst he
  exact ⟨_, rfl, _, _, _, [], _, [], hW', trodAll_mk1 (shut_bool Try.underlying4 _), (trodAll_cons_mk (Below.trod laidOut (by kernel_rfl) (of_decide_eq_true (by kernel_rfl)) k0 bel lt0) (trodAll_cons_mk (Below.trod laidOut (by kernel_rfl) (of_decide_eq_true (by kernel_rfl)) k1 bel lt1) (trodAll_cons_mk (shut_int Try.underlying2 w2) (trodAll_cons_mk (shut_int Try.underlying2 w3) (trodAll_cons_mk (shut_int Try.underlying2 w4) (trodAll_cons_mk (shut_int Try.underlying2 w5) trodAll_mk0)))))), rfl, bel.frame _, fun h => by cases h⟩

theorem over : Rows.fnAddOneLinkStepRow.holds Try.pinned (OpenSpec.ofChange Rows.fnAddOneLinkStepSpec) :=
  OpenClaim.holds_of_wide 4 Try.f4 rfl rfl rfl rfl rfl rfl rfl ⟨rfl, rfl, rfl, rfl, rfl⟩ rfl rfl rfl rfl rfl (by kernel_rfl) Try.func4 (by kernel_rfl)
    (of_decide_eq_true (by kernel_rfl)) (by unfold Func.isWrapper; first | (rw [if_pos (by decide +kernel)]; kernel_rfl) | (rw [if_neg (by decide +kernel)]; exact ⟨rfl, rfl⟩))
    (fun os started H enc _ => lifted os started H enc)

/-- ████ THE STATEMENT ████ -/
theorem proved : Rows.FnAddOneLinkStepSaid := over
end Go.Proofs.Qxb6627895a.fnAddOneLinkStep
