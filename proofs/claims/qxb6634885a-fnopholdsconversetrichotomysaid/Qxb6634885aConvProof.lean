/-
  The proof of 'Rows.FnOpHoldsConverseTrichotomySaid': the frame by the kit's own program, the walk by hand.
-/
import Derived.Test.Qxb6634885aRows
import Derived.WalkKit
import Derived.ProofKit
import Derived.OpenShut
import Derived.ShutString
import Derived.Test.Qxb6634885aHolds
namespace Go.Proofs.Qxb6634885a.fnOpHoldsConverseTrichotomy
open Go.ChangeShapes Go.WideShapes Go.ChangeAt Go.RowKit
open Go.ChangeMaps (open_string shut_string)
set_option linter.unusedVariables false      -- a walk need not use every 'w<i>' (that an integer argument fits its kind)

theorem own : ownKnob Try.prog.godebug = none := by kernel_rfl

/-! ### THE PLAIN LAW -/
theorem holds_other (a o : Int) (h1 : ¬ a = 1) (h2 : ¬ a = 2) (h3 : ¬ a = 3) (h4 : ¬ a = 4) (h5 : ¬ a = 5) (h6 : ¬ a = 6) : holdsB a o = false := by
  simp [holdsB, h1, h2, h3, h4, h5, h6]
/-- the three signs of an order: what each of the six operators says, there, at the flipped order and at the sign -/
theorem signs (o : Int) :
    ((∀ a, holdsB a o = holdsB a (-1)) ∧ flipI o = 1 ∧ sgnI o = -1) ∨ ((∀ a, holdsB a o = holdsB a 0) ∧ flipI o = 0 ∧ sgnI o = 0)
      ∨ ((∀ a, holdsB a o = holdsB a 1) ∧ flipI o = -1 ∧ sgnI o = 1) := by
  by_cases h1 : 0 < o
  · refine .inr (.inr ⟨fun a => ?_, by simp [flipI, h1], by simp [sgnI, h1]⟩)
    have e1 : ¬ o < 0 := by omega
    have e2 : ¬ o ≤ 0 := by omega
    have e3 : 0 ≤ o := by omega
    have e4 : (o == 0) = false := by have : ¬ o = 0 := by omega
                                     simpa using this
    simp [holdsB, h1, e1, e2, e3, e4]
  · by_cases h2 : o < 0
    · refine .inl ⟨fun a => ?_, by simp [flipI, h1, h2], by simp [sgnI, h1, h2]⟩
      have e2 : o ≤ 0 := by omega
      have e3 : ¬ 0 ≤ o := by omega
      have e4 : (o == 0) = false := by have : ¬ o = 0 := by omega
                                       simpa using this
      simp [holdsB, h1, h2, e2, e3, e4]
    · have e0 : o = 0 := by omega
      subst e0
      exact .inr (.inl ⟨fun a => rfl, rfl, rfl⟩)
theorem conv_law (a o : Int) : holdsB (convO a) (flipI o) = holdsB a o := by
  by_cases h1 : a = 1
  · subst h1; rcases signs o with ⟨h, e, _⟩ | ⟨h, e, _⟩ | ⟨h, e, _⟩ <;> rw [h, e] <;> decide
  by_cases h2 : a = 2
  · subst h2; rcases signs o with ⟨h, e, _⟩ | ⟨h, e, _⟩ | ⟨h, e, _⟩ <;> rw [h, e] <;> decide
  by_cases h3 : a = 3
  · subst h3; rcases signs o with ⟨h, e, _⟩ | ⟨h, e, _⟩ | ⟨h, e, _⟩ <;> rw [h, e] <;> decide
  by_cases h4 : a = 4
  · subst h4; rcases signs o with ⟨h, e, _⟩ | ⟨h, e, _⟩ | ⟨h, e, _⟩ <;> rw [h, e] <;> decide
  by_cases h5 : a = 5
  · subst h5; rcases signs o with ⟨h, e, _⟩ | ⟨h, e, _⟩ | ⟨h, e, _⟩ <;> rw [h, e] <;> decide
  by_cases h6 : a = 6
  · subst h6; rcases signs o with ⟨h, e, _⟩ | ⟨h, e, _⟩ | ⟨h, e, _⟩ <;> rw [h, e] <;> decide
  have : convO a = a := by simp [convO, h3, h4, h5, h6]
  rw [this, holds_other a _ h1 h2 h3 h4 h5 h6, holds_other a _ h1 h2 h3 h4 h5 h6]
theorem sgn_law (a o : Int) : holdsB a (sgnI o) = holdsB a o := by
  rcases signs o with ⟨h, _, e⟩ | ⟨h, _, e⟩ | ⟨h, _, e⟩ <;> rw [h, e]

/-! ### THE WALK: the order's three signs, the operator's seven cases: every test is decided ahead -/
set_option maxHeartbeats 4000000 in
set_option maxRecDepth 10000 in
theorem walk (a0 : Int) (a1 : Int) (w0 : (Lit.int .u8 a0).wf = true) (w1 : (Lit.int .i64 a1).wf = true) (w : World) :
    Calls Try.prog 4 #[.int .u8 a0, .int .i64 a1] w fun e w' => e = .returned (.bool true) ∧ Grown w w' := by
  clear w0 w1
  have r1 := conv_law a0 a1
  have r2 := sgn_law a0 a1
  have r3 : (∃ l e g : Bool, holdsB 3 a1 = l ∧ holdsB 1 a1 = e ∧ holdsB 5 a1 = g ∧ holdsB 2 a1 = (l || g) ∧ holdsB 4 a1 = (l || e) ∧ holdsB 6 a1 = (g || e)
      ∧ ((l = true ∧ e = false ∧ g = false) ∨ (l = false ∧ e = true ∧ g = false) ∨ (l = false ∧ e = false ∧ g = true))) := by
    rcases signs a1 with ⟨h, _, _⟩ | ⟨h, _, _⟩ | ⟨h, _, _⟩ <;> simp only [h]
    · exact ⟨_, _, _, rfl, rfl, rfl, rfl, rfl, rfl, .inl ⟨rfl, rfl, rfl⟩⟩
    · exact ⟨_, _, _, rfl, rfl, rfl, rfl, rfl, rfl, .inr (.inl ⟨rfl, rfl, rfl⟩)⟩
    · exact ⟨_, _, _, rfl, rfl, rfl, rfl, rfl, rfl, .inr (.inr ⟨rfl, rfl, rfl⟩)⟩
  have r4 : (∃ n : Int, a0 = n ∧ (n = 1 ∨ n = 2 ∨ n = 3 ∨ n = 4 ∨ n = 5 ∨ n = 6)) ∨
      ((a0 == 1) = false ∧ (a0 == 2) = false ∧ (a0 == 3) = false ∧ (a0 == 4) = false ∧ (a0 == 5) = false ∧ (a0 == 6) = false ∧ holdsB a0 a1 = false) := by
    by_cases h : a0 = 1 ∨ a0 = 2 ∨ a0 = 3 ∨ a0 = 4 ∨ a0 = 5 ∨ a0 = 6
    · exact .inl ⟨a0, rfl, h⟩
    · simp only [not_or] at h
      obtain ⟨h1, h2, h3, h4, h5, h6⟩ := h
      exact .inr ⟨by simpa using h1, by simpa using h2, by simpa using h3, by simpa using h4, by simpa using h5, by simpa using h6, holds_other a0 a1 h1 h2 h3 h4 h5 h6⟩
  obtain ⟨l, e, g, b3, b1, b5, b2, b4, b6, hleg⟩ := r3
  rcases r4 with ⟨n, rfl, hn⟩ | ⟨c1, c2, c3, c4, c5, c6, hx⟩
  · rcases hn with rfl | rfl | rfl | rfl | rfl | rfl <;> rcases hleg with ⟨rfl, rfl, rfl⟩ | ⟨rfl, rfl, rfl⟩ | ⟨rfl, rfl, rfl⟩
    all_goals
      simp only [Bool.or_false, Bool.or_true] at b2 b4 b6
      go_enter Try.func4, Try.ntmps4
      go_wp2_with (first
        | (go_at_call 8; refine (conv_any _ _).mono ?_; rintro e w' ⟨rfl, rfl⟩)
        | (go_at_call 9; refine (flip_any _ _).mono ?_; rintro e w' ⟨rfl, rfl⟩)
        | (go_at_call 10; refine (sgn_any _ _).mono ?_; rintro e w' ⟨rfl, rfl⟩)
        | (go_at_call 5; refine (holds_any _ _ _).mono ?_; rintro e w' ⟨rfl, rfl⟩))
      go_ret
      exact ⟨rfl, Grown.refl _⟩
  · rcases hleg with ⟨rfl, rfl, rfl⟩ | ⟨rfl, rfl, rfl⟩ | ⟨rfl, rfl, rfl⟩
    all_goals
      simp only [Bool.or_false, Bool.or_true] at b2 b4 b6
      go_enter Try.func4, Try.ntmps4
      go_wp2_with (first
        | (go_at_call 8; refine (conv_any _ _).mono ?_; rintro e w' ⟨rfl, rfl⟩)
        | (go_at_call 9; refine (flip_any _ _).mono ?_; rintro e w' ⟨rfl, rfl⟩)
        | (go_at_call 10; refine (sgn_any _ _).mono ?_; rintro e w' ⟨rfl, rfl⟩)
        | (go_at_call 5; refine (holds_any _ _ _).mono ?_; rintro e w' ⟨rfl, rfl⟩))
      go_ret
      exact ⟨rfl, Grown.refl _⟩

/-! ### THE ROW's STEP: WRITTEN OUT: LEAVE IT -/
set_option maxRecDepth 100000 in
theorem lifted (os : Os) (started : os.Started) (H : Type) (enc : TypeId × Value → H) :
    ReturnsInHanded {} Try.checked os 4 .any (Rows.fnOpHoldsConverseTrichotomySpec.pre6 enc Try.prog Try.f4 Rows.fnOpHoldsConverseTrichotomyRow.domain false) (Rows.fnOpHoldsConverseTrichotomySpec.post enc Try.prog Try.f4 false true false false) := by
  refine returnsInHanded_of_change (C := Try.checked) own started (by kernel_rfl) Try.func4
    (ChangeSpec.witness6 (enc := enc) (C := Try.checked) false ⟨#[], #[.int .u8 0, .int .i64 0], []⟩ 8 (by kernel_rfl) (by kernel_rfl) (by kernel_rfl) (by kernel_rfl)) ?_
  intro W base args ds gs before hval0 hW hcnd _
  have hval : ∀ (j : Nat) t v, Try.f4.params[j]? = some t → args[j]? = some v → Value.okWide Try.prog W .any base t v := hval0
  have hW' := hW
  obtain ⟨p, q, hA0, hV, rfl, hfz, hnd⟩ := hW
  have hA : DataW.TrodAll enc Try.prog W 0 (fun _ => true) true Try.f4.params.toList args.toList ds p := hA0
  rw [Try.params4] at hA hval
  obtain ⟨v0, vs0, d0, ds0, p0, q0, hargs, rfl, rfl, h0, r0⟩ := trodAll_cons hA
  obtain ⟨v1, vs1, d1, ds1, p1, q1, rfl, rfl, rfl, h1, r1⟩ := trodAll_cons r0
  obtain ⟨rfl, rfl, rfl⟩ := trodAll_nil r1
  obtain rfl : args = #[v0, v1] := by cases args; simp_all
  obtain ⟨rfl, rfl⟩ := trodVars_none hV
  obtain ⟨a0, rfl, rfl, rfl, w0⟩ := open_int Try.underlying22 (hval 0 22 v0 rfl rfl) h0
  obtain ⟨a1, rfl, rfl, rfl, w1⟩ := open_int Try.underlying3 (hval 1 3 v1 rfl rfl) h1
  clear hA0 hval0
  simp only [List.append_nil] at hW'
  refine (walk a0 a1 w0 w1 W).mono fun e W' ⟨he, hg⟩ => ?_
  subst he
  exact ⟨_, rfl, post_of_same (pa := []) (pv := []) hW' (fun _ _ _ => (trodAll_cons_mk (shut_bool Try.underlying4 _) trodAll_mk0)) (fun sp _ => (trodAll_cons_mk (shut_int Try.underlying22 w0) (trodAll_cons_mk (shut_int Try.underlying3 w1) trodAll_mk0))) (fun _ _ => rfl) rfl
    (hg.frame _) hg.2.1 (ok_one (by kernel_rfl) rfl (okWide_bool_mk Try.underlying4 _))⟩

theorem over : Rows.fnOpHoldsConverseTrichotomyRow.holds Try.pinned (OpenSpec.ofChange Rows.fnOpHoldsConverseTrichotomySpec) :=
  OpenClaim.holds_of_wide 4 Try.f4 rfl rfl rfl rfl rfl rfl rfl ⟨rfl, rfl, rfl, rfl, rfl⟩ rfl rfl rfl rfl rfl (by kernel_rfl) Try.func4 (by kernel_rfl)
    (of_decide_eq_true (by kernel_rfl)) (by unfold Func.isWrapper; first | (rw [if_pos (by decide +kernel)]; kernel_rfl) | (rw [if_neg (by decide +kernel)]; exact ⟨rfl, rfl⟩))
    (fun os started H enc _ => lifted os started H enc)

/-- ████ THE STATEMENT ████ -/
theorem proved : Rows.FnOpHoldsConverseTrichotomySaid :=
  over
end Go.Proofs.Qxb6634885a.fnOpHoldsConverseTrichotomy
