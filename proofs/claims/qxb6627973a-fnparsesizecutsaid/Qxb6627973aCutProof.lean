/-
  The proof of 'Rows.FnParseSizeCutSaid': the frame by the kit's own program, the walk by hand.
-/
import Derived.Test.Qxb6627973aRows
import Derived.WalkKit
import Derived.ProofKit
import Derived.OpenShut
import Derived.ShutString
import Derived.ChangeOld
import Derived.Below
import Derived.Test.Qxb6627973aBase
import Derived.Deep.DeepCutAuto
namespace Go.Proofs.Qxb6627973a.fnParseSizeCut
open Go.ChangeShapes Go.WideShapes Go.ChangeAt Go.RowKit
open Go.ChangeMaps (open_string shut_string)
set_option linter.unusedVariables false

theorem own : ownKnob Try.prog.godebug = none := by kernel_rfl
theorem laidOut : laidOutB Try.prog = true := by kernel_rfl

/-! ### THE PLAIN LAW: a number cut in two -/
structure CutFacts (o o' : Nat → Int) (n k : Nat) : Prop where
  hk : psB o k = true
  ht : psB o' (n - k) = true
  vk : psV o k = val o k
  vt : psV o' (n - k) = val o' (n - k)
  vn : psV o n = val o n
  cut : (val o n : Int) = (val o k : Int) * (p10 (n - k) : Int) + (val o' (n - k) : Int)
  le : val o n ≤ 999999999999999999
  last : (val o n : Int) % 10 = o (n - 1) - 48
  dig : 48 ≤ o (n - 1) ∧ o (n - 1) ≤ 57

theorem val_last (o : Nat → Int) (n : Nat) (h : 1 ≤ n) : val o n = val o (n - 1) * 10 + (o (n - 1) - 48).toNat := by
  cases n with
  | zero => omega
  | succ m => rfl
theorem cut_facts {o o' : Nat → Int} {n k : Nat} (ho : o' = fun i => o (k + i)) (h1 : 1 ≤ k) (h2 : k < n) (h18 : n ≤ 18) (hd : dg o n = true) : CutFacts o o' n k := by
  have en : k + (n - k) = n := by omega
  have hc := dg_cut o k (n - k)
  rw [en, hd, ← ho] at hc
  obtain ⟨d1, d2⟩ := Bool.and_eq_true_iff.1 hc.symm
  have hB : psB o n = true := by simp [psB, hd, h18]; omega
  have hk : psB o k = true := by simp [psB, d1]; omega
  have ht : psB o' (n - k) = true := by simp [psB, d2]; omega
  have hv := val_cut o k (n - k)
  rw [en, ← ho] at hv
  have hdig := (dg_iff o n).1 hd (n - 1) (by omega)
  refine ⟨hk, ht, by simp [psV, hk], by simp [psV, ht], by simp [psV, hB], ?_, val_le18 hd h18, ?_, hdig⟩
  · have : val o n = val o k * p10 (n - k) + val o' (n - k) := hv
    rw [this]
    simp
  · have := val_last o n (by omega)
    omega
theorem cut_no {o o' : Nat → Int} {n k : Nat} (ho : o' = fun i => o (k + i)) (h2 : k < n) (hd : dg o n = false) : psB o k = false ∨ psB o' (n - k) = false := by
  have en : k + (n - k) = n := by omega
  have hc := dg_cut o k (n - k)
  rw [en, hd, ← ho] at hc
  rcases Bool.and_eq_false_iff.1 hc.symm with e | e
  · exact .inl (by simp [psB, e])
  · exact .inr (by simp [psB, e])

/-! ### THE WALK -/
set_option maxHeartbeats 4000000 in
set_option maxRecDepth 10000 in
theorem walk_main (x : Addr) (n cap0 k : Nat) (o : Nat → Int) (w : World) (h : ByteRow w (some x) n o) (h16 : n ≤ 65536) (h1 : 1 ≤ k) (h2 : k < n) :
    Calls Try.prog 4 #[.slice (some x) n cap0, .int .i64 (k : Nat)] w fun e w' => e = .returned (.bool true) ∧ Below w.heap.size w w' := by
  have hz : zzB n = true := by simp [zzB]; omega
  have hq := nnil22
  obtain ⟨wk, hk1, hk2, hk3⟩ := copy_made (cap := cap0) h 3
  have hmk := make22 n (by omega) w
  have hR : ByteRow wk (some ⟨w.heap.size, 0, none⟩) n o := row_bytes hk2 (fun i _ => rfl) h.2
  obtain ⟨o', ho⟩ : ∃ o' : Nat → Int, o' = fun i => o (k + i) := ⟨_, rfl⟩
  have hH := hR.take (show k ≤ n by omega)
  have hT := hR.drop (show k ≤ n by omega)
  rw [← ho, Nat.zero_add] at hT
  clear hk2 h
  by_cases h18 : n ≤ 18
  case neg =>
    have hB : psB o n = false := by simp [psB, h18]
    have hV : psV o n = 0 := by simp [psV, hB]
    clear ho
    go_enter Try.func4, Try.ntmps4
    go_wp2_with (go_at_call 8; refine (zz8 _ _ _ _ _).mono ?_; rintro e w' ⟨rfl, rfl⟩)
    refine (parse_any hR (by omega)).mono ?_
    rintro e w' ⟨rfl, rfl⟩
    go_wp2_with fail
    refine (parse_any hH (by omega)).mono ?_
    rintro e w' ⟨rfl, rfl⟩
    go_wp2_with fail
    refine (parse_any hT (by omega)).mono ?_
    rintro e w' ⟨rfl, rfl⟩
    go_wp2
    go_ret
    exact ⟨rfl, hk3⟩
  cases hd : dg o n
  · have hB : psB o n = false := by simp [psB, hd]
    have hV : psV o n = 0 := by simp [psV, hB]
    have hor : (psB o k = false) ∨ (psB o k = true ∧ psB o' (n - k) = false) := by
      rcases cut_no ho h2 hd with e | e
      · exact .inl e
      · cases ek : psB o k
        · exact .inl rfl
        · exact .inr ⟨rfl, e⟩
    clear ho
    rcases hor with e1 | ⟨e1, e2⟩
    all_goals
      go_enter Try.func4, Try.ntmps4
      go_wp2_with (go_at_call 8; refine (zz8 _ _ _ _ _).mono ?_; rintro e w' ⟨rfl, rfl⟩)
      refine (parse_any hR (by omega)).mono ?_
      rintro e w' ⟨rfl, rfl⟩
      go_wp2_with fail
      refine (parse_any hH (by omega)).mono ?_
      rintro e w' ⟨rfl, rfl⟩
      go_wp2_with fail
      refine (parse_any hT (by omega)).mono ?_
      rintro e w' ⟨rfl, rfl⟩
      go_wp2_with (go_at_call 7; refine (digits_any hR (by omega)).mono ?_; rintro e w' ⟨rfl, rfl⟩)
      go_ret
      exact ⟨rfl, hk3⟩
  · obtain ⟨f1, f2, f3, f4, f5, f6, f7, f8, f9⟩ := cut_facts ho h1 h2 h18 hd
    have hB : psB o n = true := by simp [psB, hd, h18]; omega
    clear ho
    obtain ⟨b, off, eb, hb, hc⟩ := hR.at (j := n - 1) (by omega)
    cases eb
    have g := hc (n - 1) (by omega)
    rw [Nat.zero_add] at g
    obtain ⟨V, hV⟩ : ∃ V, psV o n = V := ⟨_, rfl⟩
    obtain ⟨Hd, hHd⟩ : ∃ V, psV o k = V := ⟨_, rfl⟩
    obtain ⟨T, hT2⟩ : ∃ V, psV o' (n - k) = V := ⟨_, rfl⟩
    obtain ⟨P, hP⟩ : ∃ V, p10 (n - k) = V := ⟨_, rfl⟩
    obtain ⟨y, hy⟩ : ∃ y, o (n - 1) = y := ⟨_, rfl⟩
    rw [← f5, ← f3, ← f4, hV, hHd, hT2, hP] at f6
    rw [← f5, hV] at f7
    rw [← f5, hV, hy] at f8
    rw [hy] at f9 g
    have q0 : (0 : Int) ≤ (Hd : Int) * (P : Int) := Int.mul_nonneg (by omega) (by omega)
    have q1 : (Hd : Int) * (P : Int) ≤ 999999999999999999 := by omega
    have q2 : ((V : Int) == (Hd : Int) * (P : Int) + (T : Int)) = true := by simpa using f6
    have q3 : ((V : Int) % 10 == y - 48) = true := by simpa using f8
    have q4 : (T : Int) ≤ 999999999999999999 := by omega
    have q5 : ((n : Int) - (k : Int)) = ((n - k : Nat) : Int) := by omega
    have g2 : wk.cell? ⟨w.heap.size, n - 1, none⟩ = some (.int .u8 y) := g
    have HC : Hid (Calls Try.prog 9 #[.int .i64 ((n : Int) - (k : Int))] wk fun e w' => e = .returned (.int .i64 (P : Nat)) ∧ wk = w') := by
      have := pow10_any (n - k) wk (by omega)
      rw [hP, ← q5] at this
      exact this
    clear f3 f4 f5 f6 f8 hy hP g q5
    go_enter Try.func4, Try.ntmps4
    go_wp2_with (go_at_call 8; refine (zz8 _ _ _ _ _).mono ?_; rintro e w' ⟨rfl, rfl⟩)
    refine (parse_any hR (by omega)).mono ?_
    rintro e w' ⟨rfl, rfl⟩
    go_wp2_with fail
    refine (parse_any hH (by omega)).mono ?_
    rintro e w' ⟨rfl, rfl⟩
    go_wp2_with fail
    refine (parse_any hT (by omega)).mono ?_
    rintro e w' ⟨rfl, rfl⟩
    go_wp2_with (go_at_call 7; refine (digits_any hR (by omega)).mono ?_; rintro e w' ⟨rfl, rfl⟩)
    refine HC.out.mono ?_
    rintro e w' ⟨rfl, rfl⟩
    go_wp2
    go_ret
    exact ⟨rfl, hk3⟩

set_option maxRecDepth 10000 in
theorem walk (a0 : Option Addr) (len0 cap0 : Nat) (z0 : List Int) (a1 : Int) (w : World) (w0 : IsRow .u8 w a0 len0 cap0 z0) (w1 : (Lit.int .i64 a1).wf = true) :
    Calls Try.prog 4 #[.slice a0 len0 cap0, .int .i64 a1] w fun e w' => e = .returned (.bool true) ∧ Below w.heap.size w w' := by
  obtain ⟨o, h⟩ := w0.bytes
  clear w0 w1
  by_cases h16 : len0 ≤ 65536
  · have hz : zzB len0 = true := by simp [zzB]; omega
    by_cases c1 : a1 < 1
    · clear h
      go_enter Try.func4, Try.ntmps4
      go_wp2_with (go_at_call 8; refine (zz8 _ _ _ _ _).mono ?_; rintro e w' ⟨rfl, rfl⟩)
      go_ret
      exact ⟨rfl, Below.refl _ _⟩
    · by_cases c2 : (len0 : Int) ≤ a1
      · clear h
        go_enter Try.func4, Try.ntmps4
        go_wp2_with (go_at_call 8; refine (zz8 _ _ _ _ _).mono ?_; rintro e w' ⟨rfl, rfl⟩)
        go_ret
        exact ⟨rfl, Below.refl _ _⟩
      · obtain ⟨k, rfl⟩ : ∃ k : Nat, a1 = (k : Int) := ⟨a1.toNat, by omega⟩
        obtain ⟨b, off, rfl, _, _⟩ := h.at (j := 0) (by omega)
        exact walk_main _ len0 cap0 k o w h h16 (by omega) (by omega)
  · clear h
    cases hz : zzB len0
    · go_enter Try.func4, Try.ntmps4
      go_wp2_with (go_at_call 8; refine (zz8 _ _ _ _ _).mono ?_; rintro e w' ⟨rfl, rfl⟩)
      go_ret
      exact ⟨rfl, Below.refl _ _⟩
    · go_enter Try.func4, Try.ntmps4
      go_wp2_with (go_at_call 8; refine (zz8 _ _ _ _ _).mono ?_; rintro e w' ⟨rfl, rfl⟩)
      go_ret
      exact ⟨rfl, Below.refl _ _⟩

/-! ### THE ROW's STEP: WRITTEN OUT: LEAVE IT -/
set_option maxRecDepth 100000 in
theorem lifted (os : Os) (started : os.Started) (H : Type) (enc : TypeId × Value → H) :
    ReturnsInHanded {} Try.checked os 4 .any (Rows.fnParseSizeCutSpec.pre6 enc Try.prog Try.f4 Rows.fnParseSizeCutRow.domain false) (Rows.fnParseSizeCutSpec.post enc Try.prog Try.f4 false true false false) := by
  refine returnsInHanded_of_change (C := Try.checked) own started (by kernel_rfl) Try.func4
    (ChangeSpec.witness6 (enc := enc) (C := Try.checked) false ⟨#[], #[.slice none 0 0, .int .i64 0], []⟩ 8 (by kernel_rfl) (by kernel_rfl) (by kernel_rfl) (by kernel_rfl)) ?_
  intro W base args ds gs before hval0 hW hcnd _
  have hval : ∀ (j : Nat) t v, Try.f4.params[j]? = some t → args[j]? = some v → Value.okWide Try.prog W .any base t v := hval0
  have hW' := hW
  obtain ⟨p, q, hA0, hV, rfl, hfz, hnd⟩ := hW
  have hA : DataW.TrodAll enc Try.prog W 0 (fun _ => true) true Try.f4.params.toList args.toList ds p := hA0
  rw [Try.params4] at hA hval
  obtain ⟨v0, vs0, d0, ds0, p0, q0, hargs, rfl, rfl, h0, r0⟩ := trodAll_cons hA
  obtain ⟨v1, vs1, d1, ds1, p1, q1, rfl, rfl, rfl, h1, r1⟩ := trodAll_cons r0
  obtain ⟨rfl, rfl, rfl⟩ := trodAll_nil r1
  obtain rfl : args = #[v0, v1] := by cases args; simp_all
  obtain ⟨rfl, rfl⟩ := trodVars_none hV
  obtain ⟨a0, len0, cap0, rfl⟩ := okWide_slice Try.underlying22 (hval 0 22 v0 rfl rfl)
  have k0 := h0
  have lt0 : ∀ x ∈ p0, x.block < W.heap.size := by obtain ⟨m, hm⟩ := k0; exact DataW.trod_lt m _ _ _ hm
  obtain ⟨z0, w0⟩ : ∃ zs, IsRow .u8 W a0 len0 cap0 zs := by
    obtain ⟨fuel, hf⟩ := h0
    rcases open_ints Try.underlying22 Try.underlying5 (by kernel_rfl) hf with ⟨hcs, _⟩ | ⟨x, l, c, zs, hcs, _, hl, hm, hz, _, hcell, hwz⟩
    · simp [Value.cells] at hcs
      obtain ⟨rfl, rfl, rfl⟩ := hcs
      exact ⟨[], .inl ⟨rfl, rfl, rfl, rfl⟩⟩
    · simp [Value.cells] at hcs
      obtain ⟨rfl, rfl, rfl⟩ := hcs
      exact ⟨zs, .inr ⟨_, rfl, hl, hm, by simpa using hz, hcell, hwz⟩⟩
  obtain ⟨a1, rfl, rfl, rfl, w1⟩ := open_int Try.underlying3 (hval 1 3 v1 rfl rfl) h1
  clear hA0 hval0
  refine (walk a0 len0 cap0 z0 a1 W w0 w1).mono fun e W' ⟨he, bel⟩ => ?_
  subst he
  exact ⟨_, rfl, _, _, _, [], _, [], hW', trodAll_mk1 (shut_bool Try.underlying4 _), (trodAll_cons_mk (Below.trod laidOut (by kernel_rfl) (of_decide_eq_true (by kernel_rfl)) k0 bel lt0) (trodAll_cons_mk (shut_int Try.underlying3 w1) trodAll_mk0)), rfl, bel.frame _, fun h => by cases h⟩

theorem over : Rows.fnParseSizeCutRow.holds Try.pinned (OpenSpec.ofChange Rows.fnParseSizeCutSpec) :=
  OpenClaim.holds_of_wide 4 Try.f4 rfl rfl rfl rfl rfl rfl rfl ⟨rfl, rfl, rfl, rfl, rfl⟩ rfl rfl rfl rfl rfl (by kernel_rfl) Try.func4 (by kernel_rfl)
    (of_decide_eq_true (by kernel_rfl)) (by unfold Func.isWrapper; first | (rw [if_pos (by decide +kernel)]; kernel_rfl) | (rw [if_neg (by decide +kernel)]; exact ⟨rfl, rfl⟩))
    (fun os started H enc _ => lifted os started H enc)

/-- ████ THE STATEMENT ████ -/
theorem proved : Rows.FnParseSizeCutSaid := over
end Go.Proofs.Qxb6627973a.fnParseSizeCut
