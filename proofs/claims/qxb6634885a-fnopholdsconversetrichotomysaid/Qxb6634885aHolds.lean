/-
  The contracts of Op.Holds (5), negOp (6), validOp (7), convOp (8), flipOrder (9), sgnOrder (10).
-/
import Derived.Test.Qxb6634885aRows
import Derived.WalkKit
import Derived.ProofKit
namespace Go.Proofs.Qxb6634885a
open Go.RowKit

/-- does the operator a hold at the order o? -/
def holdsB (a o : Int) : Bool :=
  if a = 1 then o == 0 else if a = 2 then !(o == 0) else if a = 3 then decide (o < 0) else if a = 4 then decide (o ≤ 0)
  else if a = 5 then decide (0 < o) else if a = 6 then decide (0 ≤ o) else false
def negO (a : Int) : Int := if a = 1 then 2 else if a = 2 then 1 else if a = 3 then 6 else if a = 6 then 3 else if a = 5 then 4 else if a = 4 then 5 else a
def validB (a : Int) : Bool := decide (1 ≤ a) && decide (a ≤ 6)
def convO (a : Int) : Int := if a = 3 then 5 else if a = 5 then 3 else if a = 4 then 6 else if a = 6 then 4 else a
def flipI (o : Int) : Int := if 0 < o then -1 else if o < 0 then 1 else 0
def sgnI (o : Int) : Int := if 0 < o then 1 else if o < 0 then -1 else 0

set_option maxHeartbeats 400000 in
theorem holds_any (a o : Int) (w : World) :
    Calls Try.prog 5 #[.int .u8 a, .int .i64 o] w fun e w' => e = .returned (.bool (holdsB a o)) ∧ w' = w := by
  by_cases h1 : a = 1
  · subst h1; go_enter Try.func5, Try.ntmps5
    go_wp2
    go_ret
    exact ⟨rfl, rfl⟩
  by_cases h2 : a = 2
  · subst h2; go_enter Try.func5, Try.ntmps5
    go_wp2
    go_ret
    exact ⟨rfl, rfl⟩
  by_cases h3 : a = 3
  · subst h3; go_enter Try.func5, Try.ntmps5
    go_wp2
    go_ret
    exact ⟨rfl, rfl⟩
  by_cases h4 : a = 4
  · subst h4; go_enter Try.func5, Try.ntmps5
    go_wp2
    go_ret
    exact ⟨rfl, rfl⟩
  by_cases h5 : a = 5
  · subst h5; go_enter Try.func5, Try.ntmps5
    go_wp2
    go_ret
    exact ⟨rfl, rfl⟩
  by_cases h6 : a = 6
  · subst h6; go_enter Try.func5, Try.ntmps5
    go_wp2
    go_ret
    exact ⟨rfl, rfl⟩
  have g1 : (a == 1) = false := by simpa using h1
  have g2 : (a == 2) = false := by simpa using h2
  have g3 : (a == 3) = false := by simpa using h3
  have g4 : (a == 4) = false := by simpa using h4
  have g5 : (a == 5) = false := by simpa using h5
  have g6 : (a == 6) = false := by simpa using h6
  go_enter Try.func5, Try.ntmps5
  go_wp2
  go_ret
  exact ⟨by simp [holdsB, h1, h2, h3, h4, h5, h6], rfl⟩

set_option maxHeartbeats 400000 in
theorem neg_any (a : Int) (w : World) :
    Calls Try.prog 6 #[.int .u8 a] w fun e w' => e = .returned (.int .u8 (negO a)) ∧ w' = w := by
  by_cases h1 : a = 1
  · subst h1; go_enter Try.func6, Try.ntmps6
    go_wp2
    go_ret
    exact ⟨rfl, rfl⟩
  by_cases h2 : a = 2
  · subst h2; go_enter Try.func6, Try.ntmps6
    go_wp2
    go_ret
    exact ⟨rfl, rfl⟩
  by_cases h3 : a = 3
  · subst h3; go_enter Try.func6, Try.ntmps6
    go_wp2
    go_ret
    exact ⟨rfl, rfl⟩
  by_cases h4 : a = 4
  · subst h4; go_enter Try.func6, Try.ntmps6
    go_wp2
    go_ret
    exact ⟨rfl, rfl⟩
  by_cases h5 : a = 5
  · subst h5; go_enter Try.func6, Try.ntmps6
    go_wp2
    go_ret
    exact ⟨rfl, rfl⟩
  by_cases h6 : a = 6
  · subst h6; go_enter Try.func6, Try.ntmps6
    go_wp2
    go_ret
    exact ⟨rfl, rfl⟩
  have g1 : (a == 1) = false := by simpa using h1
  have g2 : (a == 2) = false := by simpa using h2
  have g3 : (a == 3) = false := by simpa using h3
  have g4 : (a == 4) = false := by simpa using h4
  have g5 : (a == 5) = false := by simpa using h5
  have g6 : (a == 6) = false := by simpa using h6
  go_enter Try.func6, Try.ntmps6
  go_wp2
  go_ret
  exact ⟨by simp [negO, h1, h2, h3, h4, h5, h6], rfl⟩

set_option maxHeartbeats 400000 in
theorem conv_any (a : Int) (w : World) :
    Calls Try.prog 8 #[.int .u8 a] w fun e w' => e = .returned (.int .u8 (convO a)) ∧ w' = w := by
  by_cases h3 : a = 3
  · subst h3; go_enter Try.func8, Try.ntmps8
    go_wp2
    go_ret
    exact ⟨rfl, rfl⟩
  by_cases h4 : a = 4
  · subst h4; go_enter Try.func8, Try.ntmps8
    go_wp2
    go_ret
    exact ⟨rfl, rfl⟩
  by_cases h5 : a = 5
  · subst h5; go_enter Try.func8, Try.ntmps8
    go_wp2
    go_ret
    exact ⟨rfl, rfl⟩
  by_cases h6 : a = 6
  · subst h6; go_enter Try.func8, Try.ntmps8
    go_wp2
    go_ret
    exact ⟨rfl, rfl⟩
  have g3 : (a == 3) = false := by simpa using h3
  have g4 : (a == 4) = false := by simpa using h4
  have g5 : (a == 5) = false := by simpa using h5
  have g6 : (a == 6) = false := by simpa using h6
  go_enter Try.func8, Try.ntmps8
  go_wp2
  go_ret
  exact ⟨by simp [convO, h3, h4, h5, h6], rfl⟩

set_option maxHeartbeats 400000 in
theorem valid_any (a : Int) (w : World) :
    Calls Try.prog 7 #[.int .u8 a] w fun e w' => e = .returned (.bool (validB a)) ∧ w' = w := by
  by_cases h1 : 1 ≤ a
  · by_cases h2 : a ≤ 6
    · go_enter Try.func7, Try.ntmps7
      go_wp2
      go_ret
      exact ⟨by simp [validB, h1, h2], rfl⟩
    · go_enter Try.func7, Try.ntmps7
      go_wp2
      go_ret
      exact ⟨by simp [validB, h1, h2], rfl⟩
  · have H : Hid (validB a = false) := by show validB a = false; simp [validB, h1]
    go_enter Try.func7, Try.ntmps7
    go_wp2
    go_ret
    exact ⟨by rw [H.out]; rfl, rfl⟩

set_option maxHeartbeats 400000 in
theorem flip_any (o : Int) (w : World) :
    Calls Try.prog 9 #[.int .i64 o] w fun e w' => e = .returned (.int .i64 (flipI o)) ∧ w' = w := by
  by_cases h1 : 0 < o
  · go_enter Try.func9, Try.ntmps9
    go_wp2
    go_ret
    exact ⟨by simp [flipI, h1], rfl⟩
  · by_cases h2 : o < 0
    · go_enter Try.func9, Try.ntmps9
      go_wp2
      go_ret
      exact ⟨by simp [flipI, h1, h2], rfl⟩
    · have H : Hid (flipI o = 0) := by show flipI o = 0; simp [flipI, h1, h2]
      go_enter Try.func9, Try.ntmps9
      go_wp2
      go_ret
      exact ⟨by rw [H.out]; rfl, rfl⟩

set_option maxHeartbeats 400000 in
theorem sgn_any (o : Int) (w : World) :
    Calls Try.prog 10 #[.int .i64 o] w fun e w' => e = .returned (.int .i64 (sgnI o)) ∧ w' = w := by
  by_cases h1 : 0 < o
  · go_enter Try.func10, Try.ntmps10
    go_wp2
    go_ret
    exact ⟨by simp [sgnI, h1], rfl⟩
  · by_cases h2 : o < 0
    · go_enter Try.func10, Try.ntmps10
      go_wp2
      go_ret
      exact ⟨by simp [sgnI, h1, h2], rfl⟩
    · have H : Hid (sgnI o = 0) := by show sgnI o = 0; simp [sgnI, h1, h2]
      go_enter Try.func10, Try.ntmps10
      go_wp2
      go_ret
      exact ⟨by rw [H.out]; rfl, rfl⟩

end Go.Proofs.Qxb6634885a
