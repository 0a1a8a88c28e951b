/-
  The proof of 'Rows.FnOpHoldsNegationAndCountSaid': the frame by the kit's own program, the walk by hand.
-/
import Derived.Test.Qxb6634885aRows
import Derived.WalkKit
import Derived.ProofKit
import Derived.OpenShut
import Derived.ShutString
import Derived.Test.Qxb6634885aHolds
namespace Go.Proofs.Qxb6634885a.fnOpHoldsNegationAndCount
open Go.ChangeShapes Go.WideShapes Go.ChangeAt Go.RowKit
open Go.ChangeMaps (open_string shut_string)
set_option linter.unusedVariables false      -- a walk need not use every 'w<i>' (that an integer argument fits its kind)

theorem own : ownKnob Try.prog.godebug = none := by kernel_rfl

/-! ### THE PLAIN LAW -/
def cnt (o : Int) (k : Nat) : Int := ((List.range k).countP (fun i : Nat => holdsB (i : Int) o) : Nat)
theorem cnt_succ (o : Int) (k : Nat) : cnt o (k + 1) = cnt o k + if holdsB (k : Int) o = true then 1 else 0 := by
  unfold cnt
  rw [List.range_succ, List.countP_append]
  by_cases h : holdsB (k : Int) o = true <;> simp [h]
theorem cnt_le (o : Int) (k : Nat) : 0 ≤ cnt o k ∧ cnt o k ≤ k := by
  unfold cnt
  have := List.countP_le_length (p := fun i : Nat => holdsB (i : Int) o) (l := List.range k)
  rw [List.length_range] at this
  omega
theorem holds_sgn (a o : Int) : holdsB a o = holdsB a (sgnI o) := by
  unfold holdsB sgnI
  by_cases h1 : 0 < o
  · have e0 : ¬ o = 0 := by omega
    have e1 : ¬ o < 0 := by omega
    have e2 : ¬ o ≤ 0 := by omega
    have e3 : 0 ≤ o := by omega
    have e4 : (o == 0) = false := by simpa using e0
    simp [h1, e1, e2, e3, e4]
  · by_cases h2 : o < 0
    · have e0 : ¬ o = 0 := by omega
      have e2 : o ≤ 0 := by omega
      have e3 : ¬ 0 ≤ o := by omega
      have e4 : (o == 0) = false := by simpa using e0
      simp [h1, h2, e2, e3, e4]
    · have e0 : o = 0 := by omega
      subst e0
      simp
theorem cnt_sgn (o : Int) (k : Nat) : cnt o k = cnt (sgnI o) k := by
  unfold cnt
  congr 2
  funext i
  exact holds_sgn i o
theorem sgn_three (o : Int) : sgnI o = 1 ∨ sgnI o = -1 ∨ sgnI o = 0 := by
  unfold sgnI
  by_cases h1 : 0 < o
  · simp [h1]
  · by_cases h2 : o < 0 <;> simp [h1, h2]
set_option maxRecDepth 10000 in
theorem cnt_all (o : Int) : cnt o 256 = 3 := by
  rw [cnt_sgn]
  rcases sgn_three o with h | h | h <;> rw [h] <;> decide +kernel
theorem law_valid (a o : Int) (h : validB a = true) : (holdsB a o == holdsB (negO a) o) = false := by
  rw [holds_sgn a, holds_sgn (negO a)]
  have h' : a = 1 ∨ a = 2 ∨ a = 3 ∨ a = 4 ∨ a = 5 ∨ a = 6 := by simp [validB] at h; omega
  rcases sgn_three o with e | e | e <;> rw [e] <;> rcases h' with rfl | rfl | rfl | rfl | rfl | rfl <;> decide
theorem law_undeclared (a o : Int) (h : validB a = false) : holdsB a o = false ∧ holdsB (negO a) o = false := by
  have h' : ¬ a = 1 ∧ ¬ a = 2 ∧ ¬ a = 3 ∧ ¬ a = 4 ∧ ¬ a = 5 ∧ ¬ a = 6 := by simp [validB] at h; omega
  obtain ⟨h1, h2, h3, h4, h5, h6⟩ := h'
  simp [holdsB, negO, h1, h2, h3, h4, h5, h6]

/-! ### THE WALK -/
set_option maxHeartbeats 1000000 in
set_option maxRecDepth 10000 in
theorem walk (a0 : Int) (a1 : Int) (w0 : (Lit.int .u8 a0).wf = true) (w1 : (Lit.int .i64 a1).wf = true) (w : World) :
    Calls Try.prog 3 #[.int .u8 a0, .int .i64 a1] w fun e w' => e = .returned (.bool true) ∧ Grown w w' := by
  clear w0 w1
  have C : Hid (cnt a1 256 = 3) := cnt_all a1
  have hv : (validB a0 = true ∧ (holdsB a0 a1 == holdsB (negO a0) a1) = false) ∨ (validB a0 = false ∧ holdsB a0 a1 = false ∧ holdsB (negO a0) a1 = false) := by
    cases hv : validB a0
    · exact .inr ⟨rfl, law_undeclared a0 a1 hv⟩
    · exact .inl ⟨rfl, law_valid a0 a1 hv⟩
  rcases hv with ⟨hv, u⟩ | ⟨hv, u1, u2⟩
  all_goals
    go_enter Try.func3, Try.ntmps3
    go_wp2_with (first
      | (go_at_call 6; refine (neg_any _ _).mono ?_; rintro e w' ⟨rfl, rfl⟩)
      | (go_at_call 7; refine (valid_any _ _).mono ?_; rintro e w' ⟨rfl, rfl⟩)
      | (go_at_call 5; refine (holds_any _ _ _).mono ?_; rintro e w' ⟨rfl, rfl⟩))
    go_loop [7, 8] (fun n i => ∃ k : Nat, k ≤ 256 ∧ i = .int .i64 k ∧ n = .int .i64 (cnt a1 k)) (fun _ i => 256 - (intOf i).toNat)
    case atStart => exact ⟨0, Nat.zero_le _, rfl, rfl⟩
    case round =>
      obtain ⟨k, hk, rfl, rfl⟩ := hrel
      have hl := cnt_le a1 k
      by_cases hlt : k < 256
      · have HS : Hid (cnt a1 (k + 1) = cnt a1 k + if holdsB (k : Int) a1 = true then 1 else 0) := cnt_succ a1 k
        clear C
        have hi : (k : Int) < 256 := by omega
        go_wp2_with fail
        refine (holds_any _ _ _).mono ?_
        rintro e w' ⟨rfl, rfl⟩
        go_wp2
        all_goals
          go_round
          case rel => exact ⟨k + 1, by omega, by go_num, by rw [HS.out]; first | rw [if_pos (by assumption)] | (rw [if_neg (by simp [*])]; go_num)⟩
          case measure => simp [intOf]; omega
      · have e : k = 256 := by omega
        subst e
        have C2 := C.out
        go_wp2
        go_ret
        exact ⟨rfl, Grown.refl _⟩

/-! ### THE ROW's STEP: WRITTEN OUT: LEAVE IT -/
set_option maxRecDepth 100000 in
theorem lifted (os : Os) (started : os.Started) (H : Type) (enc : TypeId × Value → H) :
    ReturnsInHanded {} Try.checked os 3 .any (Rows.fnOpHoldsNegationAndCountSpec.pre6 enc Try.prog Try.f3 Rows.fnOpHoldsNegationAndCountRow.domain false) (Rows.fnOpHoldsNegationAndCountSpec.post enc Try.prog Try.f3 false true false false) := by
  refine returnsInHanded_of_change (C := Try.checked) own started (by kernel_rfl) Try.func3
    (ChangeSpec.witness6 (enc := enc) (C := Try.checked) false ⟨#[], #[.int .u8 0, .int .i64 0], []⟩ 8 (by kernel_rfl) (by kernel_rfl) (by kernel_rfl) (by kernel_rfl)) ?_
  intro W base args ds gs before hval0 hW hcnd _
  have hval : ∀ (j : Nat) t v, Try.f3.params[j]? = some t → args[j]? = some v → Value.okWide Try.prog W .any base t v := hval0
  have hW' := hW
  obtain ⟨p, q, hA0, hV, rfl, hfz, hnd⟩ := hW
  have hA : DataW.TrodAll enc Try.prog W 0 (fun _ => true) true Try.f3.params.toList args.toList ds p := hA0
  rw [Try.params3] at hA hval
  obtain ⟨v0, vs0, d0, ds0, p0, q0, hargs, rfl, rfl, h0, r0⟩ := trodAll_cons hA
  obtain ⟨v1, vs1, d1, ds1, p1, q1, rfl, rfl, rfl, h1, r1⟩ := trodAll_cons r0
  obtain ⟨rfl, rfl, rfl⟩ := trodAll_nil r1
  obtain rfl : args = #[v0, v1] := by cases args; simp_all
  obtain ⟨rfl, rfl⟩ := trodVars_none hV
  obtain ⟨a0, rfl, rfl, rfl, w0⟩ := open_int Try.underlying22 (hval 0 22 v0 rfl rfl) h0
  obtain ⟨a1, rfl, rfl, rfl, w1⟩ := open_int Try.underlying3 (hval 1 3 v1 rfl rfl) h1
  clear hA0 hval0
  simp only [List.append_nil] at hW'
  refine (walk a0 a1 w0 w1 W).mono fun e W' ⟨he, hg⟩ => ?_
  subst he
  exact ⟨_, rfl, post_of_same (pa := []) (pv := []) hW' (fun _ _ _ => (trodAll_cons_mk (shut_bool Try.underlying4 _) trodAll_mk0)) (fun sp _ => (trodAll_cons_mk (shut_int Try.underlying22 w0) (trodAll_cons_mk (shut_int Try.underlying3 w1) trodAll_mk0))) (fun _ _ => rfl) rfl
    (hg.frame _) hg.2.1 (ok_one (by kernel_rfl) rfl (okWide_bool_mk Try.underlying4 _))⟩

theorem over : Rows.fnOpHoldsNegationAndCountRow.holds Try.pinned (OpenSpec.ofChange Rows.fnOpHoldsNegationAndCountSpec) :=
  OpenClaim.holds_of_wide 3 Try.f3 rfl rfl rfl rfl rfl rfl rfl ⟨rfl, rfl, rfl, rfl, rfl⟩ rfl rfl rfl rfl rfl (by kernel_rfl) Try.func3 (by kernel_rfl)
    (of_decide_eq_true (by kernel_rfl)) (by unfold Func.isWrapper; first | (rw [if_pos (by decide +kernel)]; kernel_rfl) | (rw [if_neg (by decide +kernel)]; exact ⟨rfl, rfl⟩))
    (fun os started H enc _ => lifted os started H enc)

/-- ████ THE STATEMENT ████ -/
theorem proved : Rows.FnOpHoldsNegationAndCountSaid :=
  over
end Go.Proofs.Qxb6634885a.fnOpHoldsNegationAndCount
