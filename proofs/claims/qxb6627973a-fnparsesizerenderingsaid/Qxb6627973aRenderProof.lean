/-
  The proof of 'Rows.FnParseSizeRenderingSaid': the frame by the kit's own program, the walk by hand.
-/
import Derived.Test.Qxb6627973aRows
import Derived.WalkKit
import Derived.ProofKit
import Derived.OpenShut
import Derived.ShutString
import Derived.ChangeOld
import Derived.Below
import Derived.Test.Qxb6627973aBase
import Derived.Deep.DeepCutAuto
namespace Go.Proofs.Qxb6627973a.fnParseSizeRendering
open Go.ChangeShapes Go.WideShapes Go.ChangeAt Go.RowKit
open Go.ChangeMaps (open_string shut_string)
set_option linter.unusedVariables false

theorem own : ownKnob Try.prog.godebug = none := by kernel_rfl
theorem laidOut : laidOutB Try.prog = true := by kernel_rfl

/-! ### THE PLAIN LAW: one digit taken off -/
theorem off_one {o : Nat → Int} {k : Nat} (h : dg o (k + 1) = true) : ∃ d : Nat, d ≤ 9 ∧ o k = 48 + (d : Int) ∧ (val o (k + 1) : Int) = (val o k : Int) * 10 + d := by
  obtain ⟨h1, h2⟩ := (dg_iff o (k + 1)).1 h k (by omega)
  refine ⟨(o k - 48).toNat, by omega, by omega, ?_⟩
  rw [val]
  omega
theorem dg_less {o : Nat → Int} {k : Nat} (h : dg o (k + 1) = true) : dg o k = true := by
  rw [dg, Bool.and_eq_true] at h
  exact h.1

/-! ### THE WALK -/
set_option maxHeartbeats 4000000 in
set_option maxRecDepth 10000 in
theorem walk_main (a0 : Option Addr) (n cap0 : Nat) (o : Nat → Int) (w : World) (h : ByteRow w a0 n o) (h16 : n ≤ 65536) :
    Calls Try.prog 3 #[.slice a0 n cap0] w fun e w' => e = .returned (.bool true) ∧ Below w.heap.size w w' := by
  have hz : zzB n = true := by simp [zzB]; omega
  have hq := nnil22
  cases a0 with
  | none =>
    have hn : n = 0 := by
      by_cases hn : n = 0
      · exact hn
      · obtain ⟨b, off, e, _⟩ := h.1 (by omega); cases e
    subst hn
    have hB : psB o 0 = false := rfl
    have hV : psV o 0 = 0 := rfl
    go_enter Try.func3, Try.ntmps3
    go_wp2_with (first
      | (go_at_call 5; refine (zz5 _ _ _ _).mono ?_; rintro e w' ⟨rfl, rfl⟩)
      | (go_at_call 6; refine (parse_any h (by omega)).mono ?_; rintro e w' ⟨rfl, rfl⟩))
    go_ret
    exact ⟨rfl, Below.refl _ _⟩
  | some x =>
    obtain ⟨wk, hk1, hk2, hk3⟩ := copy_made (cap := cap0) h 3
    have hmk := make22 n (by omega) w
    have hR : ByteRow wk (some ⟨w.heap.size, 0, none⟩) n o := row_bytes hk2 (fun i _ => rfl) h.2
    clear hk2 h
    by_cases hn0 : 1 ≤ n
    case neg =>
      have hB : psB o n = false := by simp [psB, hn0]
      have hV : psV o n = 0 := by simp [psV, hB]
      go_enter Try.func3, Try.ntmps3
      go_wp2_with (first
        | (go_at_call 5; refine (zz5 _ _ _ _).mono ?_; rintro e w' ⟨rfl, rfl⟩)
        | (go_at_call 6; refine (parse_any hR (by omega)).mono ?_; rintro e w' ⟨rfl, rfl⟩))
      go_ret
      exact ⟨rfl, hk3⟩
    by_cases h18 : n ≤ 18
    case neg =>
      have hB : psB o n = false := by simp [psB, h18]
      have hV : psV o n = 0 := by simp [psV, hB]
      go_enter Try.func3, Try.ntmps3
      go_wp2_with (first
        | (go_at_call 5; refine (zz5 _ _ _ _).mono ?_; rintro e w' ⟨rfl, rfl⟩)
        | (go_at_call 6; refine (parse_any hR (by omega)).mono ?_; rintro e w' ⟨rfl, rfl⟩))
      go_ret
      exact ⟨rfl, hk3⟩
    cases hd : dg o n
    · have hB : psB o n = false := by simp [psB, hd]
      have hV : psV o n = 0 := by simp [psV, hB]
      go_enter Try.func3, Try.ntmps3
      go_wp2_with (first
        | (go_at_call 5; refine (zz5 _ _ _ _).mono ?_; rintro e w' ⟨rfl, rfl⟩)
        | (go_at_call 6; refine (parse_any hR (by omega)).mono ?_; rintro e w' ⟨rfl, rfl⟩)
        | (go_at_call 7; refine (digits_any hR (by omega)).mono ?_; rintro e w' ⟨rfl, rfl⟩))
      go_ret
      exact ⟨rfl, hk3⟩
    · have hB : psB o n = true := by simp [psB, hd, h18]; omega
      have hV : psV o n = val o n := by simp [psV, hB]
      have hv18 := val_le18 hd h18
      go_enter Try.func3, Try.ntmps3
      go_wp2_with (first
        | (go_at_call 5; refine (zz5 _ _ _ _).mono ?_; rintro e w' ⟨rfl, rfl⟩)
        | (go_at_call 6; refine (parse_any hR (by omega)).mono ?_; rintro e w' ⟨rfl, rfl⟩)
        | (go_at_call 7; refine (digits_any hR (by omega)).mono ?_; rintro e w' ⟨rfl, rfl⟩))
      clear hB hV hk1 hmk hz hq hv18
      go_loop [8, 9] (fun x i => ∃ k : Nat, k ≤ n ∧ i = .int .i64 ((k : Int) - 1) ∧ x = .int .i64 (val o k) ∧ dg o k = true) (fun _ i => (intOf i + 1).toNat)
      case atStart => exact ⟨n, Nat.le_refl _, rfl, rfl, hd⟩
      case round =>
        obtain ⟨k, hk, rfl, rfl, hdk⟩ := hrel
        cases k with
        | zero =>
          have hv0 : val o 0 = 0 := rfl
          clear hdk hd hR
          go_wp2
          go_ret
          exact ⟨rfl, hk3⟩
        | succ k =>
          obtain ⟨d, hd9, hod, hvd⟩ := off_one hdk
          have hle := val_le18 hdk (by omega)
          have HD : Hid (dg o k = true) := dg_less hdk
          obtain ⟨b, off, eb, hb, hc⟩ := hR.at (j := k) (by omega)
          cases eb
          have g := hc k (by omega)
          rw [hod, Nat.zero_add] at g
          have hk1 : ((k + 1 : Nat) : Int) - 1 = (k : Int) := by omega
          rw [hk1]
          clear hdk hd hR hc hod hk1
          obtain ⟨X, hX⟩ : ∃ X : Int, (val o (k + 1) : Int) = X := ⟨_, rfl⟩
          obtain ⟨Y, hY⟩ : ∃ Y : Int, (val o k : Int) = Y := ⟨_, rfl⟩
          rw [hX, hY] at hvd
          have hX0 : 0 ≤ X := by omega
          have hX1 : X ≤ 999999999999999999 := by omega
          rw [hX]
          have hm : X % 10 = (d : Int) := by omega
          have HDV : Hid (X / 10 = Y) := by show X / 10 = Y; omega
          have HY : Hid ((val o k : Int) = Y) := hY
          clear hX hY hvd hle
          go_wp2
          go_round
          case rel => exact ⟨k, by omega, rfl, by rw [HY.out, HDV.out], HD.out⟩
          case measure => simp [intOf]

set_option maxRecDepth 10000 in
theorem walk (a0 : Option Addr) (len0 cap0 : Nat) (z0 : List Int) (w : World) (w0 : IsRow .u8 w a0 len0 cap0 z0) :
    Calls Try.prog 3 #[.slice a0 len0 cap0] w fun e w' => e = .returned (.bool true) ∧ Below w.heap.size w w' := by
  obtain ⟨o, h⟩ := w0.bytes
  by_cases h16 : len0 ≤ 65536
  · exact walk_main a0 len0 cap0 o w h h16
  · clear w0 h
    cases hz : zzB len0
    · go_enter Try.func3, Try.ntmps3
      go_wp2_with (go_at_call 5; refine (zz5 _ _ _ _).mono ?_; rintro e w' ⟨rfl, rfl⟩)
      go_ret
      exact ⟨rfl, Below.refl _ _⟩
    · go_enter Try.func3, Try.ntmps3
      go_wp2_with (go_at_call 5; refine (zz5 _ _ _ _).mono ?_; rintro e w' ⟨rfl, rfl⟩)
      go_ret
      exact ⟨rfl, Below.refl _ _⟩

/-! ### THE ROW's STEP: WRITTEN OUT: LEAVE IT -/
set_option maxRecDepth 100000 in
theorem lifted (os : Os) (started : os.Started) (H : Type) (enc : TypeId × Value → H) :
    ReturnsInHanded {} Try.checked os 3 .any (Rows.fnParseSizeRenderingSpec.pre6 enc Try.prog Try.f3 Rows.fnParseSizeRenderingRow.domain false) (Rows.fnParseSizeRenderingSpec.post enc Try.prog Try.f3 false true false false) := by
  refine returnsInHanded_of_change (C := Try.checked) own started (by kernel_rfl) Try.func3
    (ChangeSpec.witness6 (enc := enc) (C := Try.checked) false ⟨#[], #[.slice none 0 0], []⟩ 8 (by kernel_rfl) (by kernel_rfl) (by kernel_rfl) (by kernel_rfl)) ?_
  intro W base args ds gs before hval0 hW hcnd _
  have hval : ∀ (j : Nat) t v, Try.f3.params[j]? = some t → args[j]? = some v → Value.okWide Try.prog W .any base t v := hval0
  have hW' := hW
  obtain ⟨p, q, hA0, hV, rfl, hfz, hnd⟩ := hW
  have hA : DataW.TrodAll enc Try.prog W 0 (fun _ => true) true Try.f3.params.toList args.toList ds p := hA0
  rw [Try.params3] at hA hval
  obtain ⟨v0, vs0, d0, ds0, p0, q0, hargs, rfl, rfl, h0, r0⟩ := trodAll_cons hA
  obtain ⟨rfl, rfl, rfl⟩ := trodAll_nil r0
  obtain rfl : args = #[v0] := by cases args; simp_all
  obtain ⟨rfl, rfl⟩ := trodVars_none hV
  obtain ⟨a0, len0, cap0, rfl⟩ := okWide_slice Try.underlying22 (hval 0 22 v0 rfl rfl)
  have k0 := h0
  have lt0 : ∀ x ∈ p0, x.block < W.heap.size := by obtain ⟨m, hm⟩ := k0; exact DataW.trod_lt m _ _ _ hm
  obtain ⟨z0, w0⟩ : ∃ zs, IsRow .u8 W a0 len0 cap0 zs := by
    obtain ⟨fuel, hf⟩ := h0
    rcases open_ints Try.underlying22 Try.underlying5 (by kernel_rfl) hf with ⟨hcs, _⟩ | ⟨x, l, c, zs, hcs, _, hl, hm, hz, _, hcell, hwz⟩
    · simp [Value.cells] at hcs
      obtain ⟨rfl, rfl, rfl⟩ := hcs
      exact ⟨[], .inl ⟨rfl, rfl, rfl, rfl⟩⟩
    · simp [Value.cells] at hcs
      obtain ⟨rfl, rfl, rfl⟩ := hcs
      exact ⟨zs, .inr ⟨_, rfl, hl, hm, by simpa using hz, hcell, hwz⟩⟩
  clear hA0 hval0
  refine (walk a0 len0 cap0 z0 W w0).mono fun e W' ⟨he, bel⟩ => ?_
  subst he
  exact ⟨_, rfl, _, _, _, [], _, [], hW', trodAll_mk1 (shut_bool Try.underlying4 _), (trodAll_cons_mk (Below.trod laidOut (by kernel_rfl) (of_decide_eq_true (by kernel_rfl)) k0 bel lt0) trodAll_mk0), rfl, bel.frame _, fun h => by cases h⟩

theorem over : Rows.fnParseSizeRenderingRow.holds Try.pinned (OpenSpec.ofChange Rows.fnParseSizeRenderingSpec) :=
  OpenClaim.holds_of_wide 3 Try.f3 rfl rfl rfl rfl rfl rfl rfl ⟨rfl, rfl, rfl, rfl, rfl⟩ rfl rfl rfl rfl rfl (by kernel_rfl) Try.func3 (by kernel_rfl)
    (of_decide_eq_true (by kernel_rfl)) (by unfold Func.isWrapper; first | (rw [if_pos (by decide +kernel)]; kernel_rfl) | (rw [if_neg (by decide +kernel)]; exact ⟨rfl, rfl⟩))
    (fun os started H enc _ => lifted os started H enc)

/-- ████ THE STATEMENT ████ -/
theorem proved : Rows.FnParseSizeRenderingSaid := over
end Go.Proofs.Qxb6627973a.fnParseSizeRendering
