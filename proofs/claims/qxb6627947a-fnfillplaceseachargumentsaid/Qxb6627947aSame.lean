/-
  The contracts of sameSlice (11) on one slice twice, of sameBytes (15) on two with the same bytes.
-/
import Derived.Test.Qxb6627947aFill
import Derived.LaidEqlPtr
import Derived.Deep.QuietTactic
import Derived.BigQuiet
namespace Go.Proofs.Qxb6627947a
open Go.ChangeShapes Go.WideShapes Go.ChangeAt Go.RowKit

theorem info5some : ∃ j, Try.prog.info? 5 = some j := by
  have := size5
  cases h : Try.prog.info? 5 with
  | none => rw [h] at this; simp at this
  | some j => exact ⟨j, rfl⟩
theorem ptr32 (w : World) (x : Addr) : (binOp .eql 32 (.pointer (some x)) (.pointer (some x))).run Try.prog w = .ok (.bool true) w := by
  obtain ⟨j, hj⟩ := info5some
  exact run_eql_ptr_same w x Try.underlying32 hj

set_option maxHeartbeats 1000000 in
theorem sameSlice_any {w : World} (a b : Option Addr) (len cap : Nat) (hn : a = none ↔ b = none) (ha : 0 < len → a = b ∧ ∃ x, a = some x) (hm : len ≤ 1048576) :
    Calls Try.prog 11 #[.slice a len cap, .slice b len cap] w fun e w' => e = .returned (.bool true) ∧ ∃ q, w' = w.drewN q := by
  have hq := nil22
  have hp := ptr32
  by_cases h0 : len = 0
  · subst h0
    have hab : a.isNone = b.isNone := by
      cases a <;> cases b <;> simp at hn ⊢
    clear ha hn
    go_enter Try.func11, Try.ntmps11
    go_wp2_with fail
    go_quiet (fail)
    go_wp2
    go_ret
    exact ⟨rfl, _, rfl⟩
  · obtain ⟨rfl, x, rfl⟩ := ha (by omega)
    have h1 : (0 : Int) < (len : Int) := by omega
    have h2 : ((len : Int) == 0) = false := by simpa using h0
    clear hn ha
    go_enter Try.func11, Try.ntmps11
    go_wp2_with fail
    go_quiet (fail)
    go_wp2
    go_ret
    exact ⟨rfl, _, rfl⟩

set_option maxHeartbeats 1000000 in
theorem sameBytes_any {w : World} {a b : Option Addr} {len c d : Nat} {o : Nat → Int} (hn : a = none ↔ b = none) (ha : ByteRow w a len o) (hb : ByteRow w b len o) (hm : len ≤ 1048576) :
    Calls Try.prog 15 #[.slice a len c, .slice b len d] w fun e w' => e = .returned (.bool true) ∧ Below w.heap.size w w' := by
  have hq := nil22
  have hab : a.isNone = b.isNone := by
    cases a <;> cases b <;> simp at hn ⊢
  clear hn
  go_enter Try.func15, Try.ntmps15
  go_wp2
  go_loopw [5] (fun i wr => ∃ k : Nat, k ≤ len ∧ i = .int .i64 k ∧ Below w.heap.size w wr) (fun i _ => len - (intOf i).toNat)
  case atStart => exact ⟨0, Nat.zero_le _, rfl, Below.refl _ _⟩
  case round =>
    obtain ⟨k, hk, rfl, hbel⟩ := hrel
    by_cases hlt : k < len
    · obtain ⟨b0, o0, rfl, hb0, hc0⟩ := ha.at hlt
      obtain ⟨b1, o1, rfl, hb1, hc1⟩ := hb.at hlt
      have g0 := (hbel.cell (p := ⟨b0, o0 + k, none⟩) hb0).trans (hc0 k hlt)
      have g1 := (hbel.cell (p := ⟨b1, o1 + k, none⟩) hb1).trans (hc1 k hlt)
      clear ha hb hc0 hc1 hab
      revert g0 g1
      generalize o k = x
      intro g0 g1
      go_wp2_with fail
      go_quiet (fail)
      go_wp2
      go_roundw
      case rel => exact ⟨k + 1, by omega, by go_num, below_drewN hbel _⟩
      case measure => simp [intOf]; omega
    · clear ha hb
      go_wp2
      go_ret
      exact ⟨rfl, hbel⟩
end Go.Proofs.Qxb6627947a
