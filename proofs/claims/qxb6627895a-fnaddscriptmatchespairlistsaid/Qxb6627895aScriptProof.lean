/-
  The proof of 'Rows.FnAddScriptMatchesPairListSaid': the frame by the kit's own program, the walk by hand.
-/
import Derived.Test.Qxb6627895aRows
import Derived.WalkKit
import Derived.ProofKit
import Derived.OpenShut
import Derived.ShutString
import Derived.ChangeOld
import Derived.Below
import Derived.Test.Qxb6627895aCount
import Derived.Deep.RegionWith
namespace Go.Proofs.Qxb6627895a.fnAddScriptMatchesPairList
open Go.ChangeShapes Go.WideShapes Go.ChangeAt Go.RowKit
open Go.ChangeMaps (open_string shut_string)
set_option linter.unusedVariables false

theorem own : ownKnob Try.prog.godebug = none := by kernel_rfl
theorem laidOut : laidOutB Try.prog = true := by kernel_rfl

/-! ### THE WALK -/
set_option maxHeartbeats 4000000 in
set_option maxRecDepth 10000 in
theorem walk_main (a0 : Option Addr) (len0 cap0 : Nat) (z0 : List Int) (a1 : Option Addr) (len1 cap1 : Nat) (z1 : List Int) (a2 : Int) (a3 : Int) (w : World) (w0 : IsRow .i64 w a0 len0 cap0 z0) (w1 : IsRow .i64 w a1 len1 cap1 z1) (w2 : (Lit.int .i64 a2).wf = true) (w3 : (Lit.int .i64 a3).wf = true)
    (h0 : len0 ≤ 4096) (h1 : len1 ≤ 4096) :
    Calls Try.prog 3 #[.slice a0 len0 cap0, .slice a1 len1 cap1, .int .i64 a2, .int .i64 a3] w fun e w' => e = .returned (.bool true) ∧ Below w.heap.size w w' := by
  have hz : zzB len0 len1 = true := by simp [zzB]; omega
  obtain ⟨n, hn⟩ : ∃ n, min len0 len1 = n := ⟨_, rfl⟩
  have hn0 : n ≤ len0 := by omega
  have hn1 : n ≤ len1 := by omega
  go_enter Try.func3, Try.ntmps3
  go_wp2_with (first
    | (go_at_call 5; refine (zz5 _ _ _ _ _ _ _ _ _).mono ?_; rintro e w' ⟨rfl, rfl⟩)
    | (go_at_call 6; refine (minLen_any _ _ _ _ _ _ _).mono ?_; rintro e w' ⟨rfl, rfl⟩))
  clear hn hz
  have hLs : Lk (w'.alloc (.cells #[.map none, .map none] 27)) w'.heap.size w'.heap.size 0 (script z0 z1 0) := ⟨Nat.le_refl _, .inl ⟨rfl, by simp, by simp, by simp, by simp⟩⟩
  go_loopw [11] (fun i wr => ∃ k : Nat, k ≤ n ∧ i = .int .i64 k ∧ Lk wr w'.heap.size w'.heap.size k (script z0 z1 k) ∧ Below w'.heap.size w' wr) (fun i _ => n - (intOf i).toNat)
  case atStart => exact ⟨0, Nat.zero_le _, rfl, hLs, (Below.refl _ _).alloc (Nat.le_refl _) _⟩
  case round =>
    clear hLs
    obtain ⟨k, hk, rfl, hL, hbel⟩ := hrel
    by_cases hlt : k < n
    · obtain ⟨x, hx⟩ : ∃ x, x = z0.getD k 0 := ⟨_, rfl⟩
      obtain ⟨y, hy⟩ : ∃ y, y = z1.getD k 0 := ⟨_, rfl⟩
      have hwx := w0.wf k
      have hwy := w1.wf k
      obtain ⟨b0, o0, rfl, hb0, hc0⟩ := w0.at (j := k) (by omega)
      obtain ⟨b1, o1, rfl, hb1, hc1⟩ := w1.at (j := k) (by omega)
      have g0 : wr.cell? ⟨b0, o0 + k, none⟩ = some (.int .i64 x) := by rw [hx]; exact (hbel.cell (p := ⟨b0, o0 + k, none⟩) hb0).trans (hc0 k (by omega))
      have g1 : wr.cell? ⟨b1, o1 + k, none⟩ = some (.int .i64 y) := by rw [hy]; exact (hbel.cell (p := ⟨b1, o1 + k, none⟩) hb1).trans (hc1 k (by omega))
      have HS : Hid (script z0 z1 (k + 1) = (x, y) :: script z0 z1 k) := by rw [hx, hy]; rfl
      rw [← hx] at hwx
      rw [← hy] at hwy
      have hLd : Lk wr.drew w'.heap.size w'.heap.size k (script z0 z1 k) := hL.below (Below.refl _ _).drew
      have hBd : w'.heap.size ≤ wr.drew.heap.size := hbel.size
      have hkm : k < maxLen := by unfold maxLen; omega
      clear hx hy hc0 hc1 w0 w1
      go_wp2_with fail
      go_region_with (go_at_call 7; refine (Add_any x y hBd hLd hwx hwy hkm).mono ?_; rintro e wa ⟨rfl, hL2, hb2⟩)
      all_goals
        go_wp2
        go_roundw
        case rel => exact ⟨k + 1, by omega, by go_num, by rw [HS.out]; exact hL2, hbel.trans ((Below.refl _ _).drew.trans hb2)⟩
        case measure => simp [intOf]; omega
    · have hkn : k = n := by omega
      subst hkn
      have hk4 : k ≤ 4096 := by omega
      obtain ⟨r1, r2, c0, c1, T1, T2, hbl⟩ := hL.fields
      have R0 := w0.below hbel
      have R1 := w1.below hbel
      rw [script_flip] at T2
      have e1 : decide ((a3, a2) ∈ script z1 z0 k) = decide ((a2, a3) ∈ script z0 z1 k) := by rw [← script_flip z0 z1]; exact decide_eq_decide.2 (mem_flip _ a2 a3)
      clear hL hlt hk w0 w1
      obtain ⟨v, hv⟩ : ∃ v : Bool, decide ((a2, a3) ∈ script z0 z1 k) = v := ⟨_, rfl⟩
      rw [hv] at e1
      go_wp2_with (first
        | (go_at_call 8; refine (zzcontained_any c0).mono ?_; rintro e x0 ⟨rfl, rfl⟩)
        | (go_at_call 9; refine (zzcontainers_any c1).mono ?_; rintro e x0 ⟨rfl, rfl⟩)
        | (go_at_call 10; refine (pairIn_any k a2 a3 R0 R1 hn0 hn1 hk4).mono ?_; rintro e x0 ⟨rfl, rfl⟩))
      refine (hasLink_any a2 a3 T1 w2 w3).mono ?_
      rintro e x1 ⟨rfl, bx1⟩
      have T2a := T2.below bx1
      clear c0 c1
      go_wp2_with fail
      refine (hasLink_any a3 a2 T2a w3 w2).mono ?_
      rintro e x2 ⟨rfl, bx2⟩
      have bx := bx1.trans (bx2.mono bx1.size)
      have hbel2 : Below w'.heap.size w' x2 := hbel.trans (bx.mono hbel.size)
      have T1b := T1.below bx
      have T2b := T2.below bx
      have R0b := R0.below bx
      have R1b := R1.below bx
      clear T1 T2 T2a bx1 bx2 bx R0 R1 hbel hbl
      have l1 := T1b.len
      rw [script_fst] at l1
      go_wp2_with fail
      refine (countDistinct_any k R0b hn0 hk4).mono ?_
      rintro e x3 ⟨rfl, bx3⟩
      have hbel3 : Below w'.heap.size w' x3 := hbel2.trans (bx3.mono hbel2.size)
      have T2c := T2b.below bx3
      have l2 := T2c.len
      rw [script_fst] at l2
      have R1c := R1b.below bx3
      clear l1
      go_wp2_with fail
      refine (countDistinct_any k R1c hn1 hk4).mono ?_
      rintro e x4 ⟨rfl, bx4⟩
      have bx := bx3.trans (bx4.mono bx3.size)
      have hbel4 : Below w'.heap.size w' x4 := hbel3.trans (bx4.mono hbel3.size)
      have T1d := T1b.below bx
      have T2d := T2b.below bx
      have R0d := R0b.below bx
      have R1d := R1b.below bx
      clear l2 T1b T2b R0b R1b T2c R1c bx3 bx4 bx hbel2 hbel3
      obtain ⟨rA, kA, lA⟩ := T1d.look w2
      go_wp2_with fail
      refine (countPartners_any k a2 R0d R1d hn0 hn1 hk4).mono ?_
      rintro e x5 ⟨rfl, bx5⟩
      have hbel5 : Below w'.heap.size w' x5 := hbel4.trans (bx5.mono hbel4.size)
      have T2e := T2d.below bx5
      have R0e := R0d.below bx5
      have R1e := R1d.below bx5
      obtain ⟨rB, kB, lB⟩ := T2e.look w3
      clear kA lA
      go_wp2_with fail
      refine (countPartners_any k a3 R1e R0e hn1 hn0 hk4).mono ?_
      rintro e x6 ⟨rfl, bx6⟩
      go_wp2
      go_ret
      exact ⟨rfl, hbel5.trans (bx6.mono hbel5.size)⟩

set_option maxRecDepth 10000 in
theorem walk (a0 : Option Addr) (len0 cap0 : Nat) (z0 : List Int) (a1 : Option Addr) (len1 cap1 : Nat) (z1 : List Int) (a2 : Int) (a3 : Int) (w : World) (w0 : IsRow .i64 w a0 len0 cap0 z0) (w1 : IsRow .i64 w a1 len1 cap1 z1) (w2 : (Lit.int .i64 a2).wf = true) (w3 : (Lit.int .i64 a3).wf = true) :
    Calls Try.prog 3 #[.slice a0 len0 cap0, .slice a1 len1 cap1, .int .i64 a2, .int .i64 a3] w fun e w' => e = .returned (.bool true) ∧ Below w.heap.size w w' := by
  cases hz : zzB len0 len1
  · clear w0 w1 w2 w3
    go_enter Try.func3, Try.ntmps3
    go_wp2_with (go_at_call 5; refine (zz5 _ _ _ _ _ _ _ _ _).mono ?_; rintro e w' ⟨rfl, rfl⟩)
    go_ret
    exact ⟨rfl, Below.refl _ _⟩
  · by_cases h0 : len0 ≤ 4096
    · by_cases h1 : len1 ≤ 4096
      · exact walk_main a0 len0 cap0 z0 a1 len1 cap1 z1 a2 a3 w w0 w1 w2 w3 h0 h1
      · clear w0 w1 w2 w3
        go_enter Try.func3, Try.ntmps3
        go_wp2_with (go_at_call 5; refine (zz5 _ _ _ _ _ _ _ _ _).mono ?_; rintro e w' ⟨rfl, rfl⟩)
        go_ret
        exact ⟨rfl, Below.refl _ _⟩
    · clear w0 w1 w2 w3
      go_enter Try.func3, Try.ntmps3
      go_wp2_with (go_at_call 5; refine (zz5 _ _ _ _ _ _ _ _ _).mono ?_; rintro e w' ⟨rfl, rfl⟩)
      go_ret
      exact ⟨rfl, Below.refl _ _⟩

/-! ### THE ROW's STEP: WRITTEN OUT: LEAVE IT -/
set_option maxRecDepth 100000 in
theorem lifted (os : Os) (started : os.Started) (H : Type) (enc : TypeId × Value → H) :
    ReturnsInHanded {} Try.checked os 3 .any (Rows.fnAddScriptMatchesPairListSpec.pre6 enc Try.prog Try.f3 Rows.fnAddScriptMatchesPairListRow.domain false) (Rows.fnAddScriptMatchesPairListSpec.post enc Try.prog Try.f3 false true false false) := by
  refine returnsInHanded_of_change (C := Try.checked) own started (by kernel_rfl) Try.func3
    (ChangeSpec.witness6 (enc := enc) (C := Try.checked) false ⟨#[], #[.slice none 0 0, .slice none 0 0, .int .i64 0, .int .i64 0], []⟩ 8 (by kernel_rfl) (by kernel_rfl) (by kernel_rfl) (by kernel_rfl)) ?_
  intro W base args ds gs before hval0 hW hcnd _
  have hval : ∀ (j : Nat) t v, Try.f3.params[j]? = some t → args[j]? = some v → Value.okWide Try.prog W .any base t v := hval0
  have hW' := hW
  obtain ⟨p, q, hA0, hV, rfl, hfz, hnd⟩ := hW
  have hA : DataW.TrodAll enc Try.prog W 0 (fun _ => true) true Try.f3.params.toList args.toList ds p := hA0
  rw [Try.params3] at hA hval
  obtain ⟨v0, vs0, d0, ds0, p0, q0, hargs, rfl, rfl, h0, r0⟩ := trodAll_cons hA
  obtain ⟨v1, vs1, d1, ds1, p1, q1, rfl, rfl, rfl, h1, r1⟩ := trodAll_cons r0
  obtain ⟨v2, vs2, d2, ds2, p2, q2, rfl, rfl, rfl, h2, r2⟩ := trodAll_cons r1
  obtain ⟨v3, vs3, d3, ds3, p3, q3, rfl, rfl, rfl, h3, r3⟩ := trodAll_cons r2
  obtain ⟨rfl, rfl, rfl⟩ := trodAll_nil r3
  obtain rfl : args = #[v0, v1, v2, v3] := by cases args; simp_all
  obtain ⟨rfl, rfl⟩ := trodVars_none hV
  obtain ⟨a0, len0, cap0, rfl⟩ := okWide_slice Try.underlying22 (hval 0 22 v0 rfl rfl)
  have k0 := h0
  have lt0 : ∀ x ∈ p0, x.block < W.heap.size := by obtain ⟨m, hm⟩ := k0; exact DataW.trod_lt m _ _ _ hm
  obtain ⟨z0, w0⟩ : ∃ zs, IsRow .i64 W a0 len0 cap0 zs := by
    obtain ⟨fuel, hf⟩ := h0
    rcases open_ints Try.underlying22 Try.underlying2 (by kernel_rfl) hf with ⟨hcs, _⟩ | ⟨x, l, c, zs, hcs, _, hl, hm, hz, _, hcell, hwz⟩
    · simp [Value.cells] at hcs
      obtain ⟨rfl, rfl, rfl⟩ := hcs
      exact ⟨[], .inl ⟨rfl, rfl, rfl, rfl⟩⟩
    · simp [Value.cells] at hcs
      obtain ⟨rfl, rfl, rfl⟩ := hcs
      exact ⟨zs, .inr ⟨_, rfl, hl, hm, by simpa using hz, hcell, hwz⟩⟩
  obtain ⟨a1, len1, cap1, rfl⟩ := okWide_slice Try.underlying22 (hval 1 22 v1 rfl rfl)
  have k1 := h1
  have lt1 : ∀ x ∈ p1, x.block < W.heap.size := by obtain ⟨m, hm⟩ := k1; exact DataW.trod_lt m _ _ _ hm
  obtain ⟨z1, w1⟩ : ∃ zs, IsRow .i64 W a1 len1 cap1 zs := by
    obtain ⟨fuel, hf⟩ := h1
    rcases open_ints Try.underlying22 Try.underlying2 (by kernel_rfl) hf with ⟨hcs, _⟩ | ⟨x, l, c, zs, hcs, _, hl, hm, hz, _, hcell, hwz⟩
    · simp [Value.cells] at hcs
      obtain ⟨rfl, rfl, rfl⟩ := hcs
      exact ⟨[], .inl ⟨rfl, rfl, rfl, rfl⟩⟩
    · simp [Value.cells] at hcs
      obtain ⟨rfl, rfl, rfl⟩ := hcs
      exact ⟨zs, .inr ⟨_, rfl, hl, hm, by simpa using hz, hcell, hwz⟩⟩
  obtain ⟨a2, rfl, rfl, rfl, w2⟩ := open_int Try.underlying2 (hval 2 2 v2 rfl rfl) h2
  obtain ⟨a3, rfl, rfl, rfl, w3⟩ := open_int Try.underlying2 (hval 3 2 v3 rfl rfl) h3
  clear hA0 hval0
  refine (walk a0 len0 cap0 z0 a1 len1 cap1 z1 a2 a3 W w0 w1 w2 w3).mono fun e W' ⟨he, bel⟩ => ?_
  subst he
  exact ⟨_, rfl, _, _, _, [], _, [], hW', trodAll_mk1 (shut_bool Try.underlying4 _), (trodAll_cons_mk (Below.trod laidOut (by kernel_rfl) (of_decide_eq_true (by kernel_rfl)) k0 bel lt0) (trodAll_cons_mk (Below.trod laidOut (by kernel_rfl) (of_decide_eq_true (by kernel_rfl)) k1 bel lt1) (trodAll_cons_mk (shut_int Try.underlying2 w2) (trodAll_cons_mk (shut_int Try.underlying2 w3) trodAll_mk0)))), rfl, bel.frame _, fun h => by cases h⟩

theorem over : Rows.fnAddScriptMatchesPairListRow.holds Try.pinned (OpenSpec.ofChange Rows.fnAddScriptMatchesPairListSpec) :=
  OpenClaim.holds_of_wide 3 Try.f3 rfl rfl rfl rfl rfl rfl rfl ⟨rfl, rfl, rfl, rfl, rfl⟩ rfl rfl rfl rfl rfl (by kernel_rfl) Try.func3 (by kernel_rfl)
    (of_decide_eq_true (by kernel_rfl)) (by unfold Func.isWrapper; first | (rw [if_pos (by decide +kernel)]; kernel_rfl) | (rw [if_neg (by decide +kernel)]; exact ⟨rfl, rfl⟩))
    (fun os started H enc _ => lifted os started H enc)

/-- ████ THE STATEMENT ████ -/
theorem proved : Rows.FnAddScriptMatchesPairListSaid := over
end Go.Proofs.Qxb6627895a.fnAddScriptMatchesPairList
