/-
  The contracts of argsBefore (10), roomBefore (12), argBytes (18), sumLens (17).
-/
import Derived.Test.Qxb6627947aBase
import Derived.Test.Qxb6627947aPlain
namespace Go.Proofs.Qxb6627947a
open Go.ChangeShapes Go.WideShapes Go.ChangeAt Go.RowKit

set_option maxHeartbeats 1000000 in
theorem argsBefore_any {w : World} {a : Option Addr} {len cap : Nat} {o : Nat → Int} (p : Nat) (h : ByteRow w a len o) (hp : p ≤ len) (hm : p ≤ 1048576) :
    Calls Try.prog 10 #[.slice a len cap, .int .i64 p] w fun e w' => e = .returned (.int .i64 (kn o p)) ∧ w = w' := by
  go_enter Try.func10, Try.ntmps10
  go_wp2
  go_loop [5, 6] (fun c i => ∃ k : Nat, k ≤ p ∧ i = .int .i64 k ∧ c = .int .i64 (kn o k)) (fun _ i => p - (intOf i).toNat)
  case atStart => exact ⟨0, Nat.zero_le _, rfl, rfl⟩
  case round =>
    obtain ⟨k, hk, rfl, rfl⟩ := hrel
    have hle := kn_le o k
    by_cases hlt : k < p
    · obtain ⟨b, off, rfl, hb, hc⟩ := h.at (j := k) (by omega)
      have g := hc k (by omega)
      have hx := h.2 k
      have H1 : Hid (o k = 129 → kn o (k + 1) = kn o k) := kn_run o k
      have H2 : Hid (¬ o k = 129 → kn o (k + 1) = kn o k + 1) := kn_arg o k
      clear hc h
      revert g hx H1 H2
      generalize o k = x
      intro g hx H1 H2
      by_cases e : x = 129
      · have H : Hid (kn o (k + 1) = kn o k) := H1.out e
        subst e
        clear H1 H2
        go_wp2
        go_round
        case rel => exact ⟨k + 1, by omega, by go_num, by rw [H.out]⟩
        case measure => simp [intOf]; omega
      · have H : Hid (kn o (k + 1) = kn o k + 1) := H2.out e
        have eb : (x != 129) = true := by simpa using e
        clear H1 H2 e
        go_wp2
        go_round
        case rel => exact ⟨k + 1, by omega, by go_num, by rw [H.out]; go_num⟩
        case measure => simp [intOf]; omega
    · have e : k = p := by omega
      subst e
      clear h
      go_wp2
      go_ret
      exact ⟨rfl, rfl⟩
set_option maxHeartbeats 1000000 in
theorem roomBefore_any {w : World} {a : Option Addr} {len cap : Nat} {o : Nat → Int} (p : Nat) (h : ByteRow w a len o) (hp : p ≤ len) (hm : p ≤ 1048576) :
    Calls Try.prog 12 #[.slice a len cap, .int .i64 p] w fun e w' => e = .returned (.int .i64 (jn o p)) ∧ w = w' := by
  go_enter Try.func12, Try.ntmps12
  go_wp2
  go_loop [5, 6] (fun c i => ∃ k : Nat, k ≤ p ∧ i = .int .i64 k ∧ c = .int .i64 (jn o k)) (fun _ i => p - (intOf i).toNat)
  case atStart => exact ⟨0, Nat.zero_le _, rfl, rfl⟩
  case round =>
    obtain ⟨k, hk, rfl, rfl⟩ := hrel
    have hle := jn_le o k
    by_cases hlt : k < p
    · obtain ⟨b, off, rfl, hb, hc⟩ := h.at (j := k) (by omega)
      have g := hc k (by omega)
      have hx := h.2 k
      have H1 : Hid (o k = 129 → jn o (k + 1) = jn o k + 1) := jn_run o k
      have H2 : Hid (o k = 130 → jn o (k + 1) = jn o k + 1) := jn_apart o k
      have H3 : Hid (¬ o k = 129 → ¬ o k = 130 → jn o (k + 1) = jn o k) := jn_len o k
      clear hc h
      revert g hx H1 H2 H3
      generalize o k = x
      intro g hx H1 H2 H3
      by_cases e : x = 129
      · have H : Hid (jn o (k + 1) = jn o k + 1) := H1.out e
        subst e
        clear H1 H2 H3
        go_wp2
        go_round
        case rel => exact ⟨k + 1, by omega, by go_num, by rw [H.out]; go_num⟩
        case measure => simp [intOf]; omega
      · by_cases e' : x = 130
        · have H : Hid (jn o (k + 1) = jn o k + 1) := H2.out e'
          subst e'
          clear H1 H2 H3
          go_wp2
          go_round
          case rel => exact ⟨k + 1, by omega, by go_num, by rw [H.out]; go_num⟩
          case measure => simp [intOf]; omega
        · have H : Hid (jn o (k + 1) = jn o k) := H3.out e e'
          have eb : (x == 129) = false := by simpa using e
          have eb' : (x == 130) = false := by simpa using e'
          clear H1 H2 H3 e e'
          go_wp2
          go_round
          case rel => exact ⟨k + 1, by omega, by go_num, by rw [H.out]⟩
          case measure => simp [intOf]; omega
    · have e : k = p := by omega
      subst e
      clear h
      go_wp2
      go_ret
      exact ⟨rfl, rfl⟩

set_option maxHeartbeats 1000000 in
theorem sumLens_any {w : World} {a : Option Addr} {len cap : Nat} {A : Nat → Option Addr} {L C : Nat → Nat} (n : Nat) (h : SlRow w a len A L C) (hn : n ≤ len) (hm : n ≤ 1048576) (hL : ∀ j, j < n → L j ≤ 1048576) :
    Calls Try.prog 17 #[.slice a len cap, .int .i64 n] w fun e w' => e = .returned (.int .i64 (sl L n)) ∧ w = w' := by
  go_enter Try.func17, Try.ntmps17
  go_wp2
  go_loop [5, 6] (fun c i => ∃ k : Nat, k ≤ n ∧ i = .int .i64 k ∧ c = .int .i64 (sl L k)) (fun _ i => n - (intOf i).toNat)
  case atStart => exact ⟨0, Nat.zero_le _, rfl, rfl⟩
  case round =>
    obtain ⟨k, hk, rfl, rfl⟩ := hrel
    have hle := sl_le L k hL hk
    by_cases hlt : k < n
    · obtain ⟨b, off, rfl, hb, hc⟩ := h.at (j := k) (by omega)
      have g := hc k (by omega)
      have hx := hL k hlt
      have H : Hid (sl L (k + 1) = sl L k + L k) := rfl
      clear hc h hL
      revert g hx H
      generalize A k = ak
      generalize C k = ck
      generalize L k = x
      intro g hx H
      go_wp2
      go_round
      case rel => exact ⟨k + 1, by omega, by go_num, by rw [H.out]; go_num⟩
      case measure => simp [intOf]; omega
    · have e : k = n := by omega
      subst e
      clear h hL
      go_wp2
      go_ret
      exact ⟨rfl, rfl⟩

set_option maxHeartbeats 1000000 in
theorem argBytes_any {w : World} {a : Option Addr} {len cap : Nat} {o : Nat → Int} {ar : Option Addr} {nr cr : Nat} {A : Nat → Option Addr} {L C : Nat → Nat} (p : Nat) (h : ByteRow w a len o) (hr : SlRow w ar nr A L C) (hp : p ≤ len) (hm : p ≤ 1048576)
    (hL : ∀ j, j < nr → L j ≤ 1048576) (hok : ∀ i, i < p → okAt o L nr i) :
    Calls Try.prog 18 #[.slice a len cap, .slice ar nr cr, .int .i64 p] w fun e w' => e = .returned (.int .i64 (ab o L p)) ∧ w = w' := by
  go_enter Try.func18, Try.ntmps18
  go_wp2
  go_loop [7, 8, 9] (fun s j i => ∃ k : Nat, k ≤ p ∧ i = .int .i64 k ∧ j = .int .i64 (jn o k) ∧ s = .int .i64 (ab o L k)) (fun _ _ i => p - (intOf i).toNat)
  case atStart => exact ⟨0, Nat.zero_le _, rfl, rfl, rfl⟩
  case round =>
    obtain ⟨k, hk, rfl, rfl, rfl⟩ := hrel
    have hle := jn_le o k
    have hle2 := ab_le o L k h.2 hok hL (by decide) hk
    by_cases hlt : k < p
    · obtain ⟨b, off, rfl, hb, hc⟩ := h.at (j := k) (by omega)
      have g := hc k (by omega)
      have hx := h.2 k
      obtain ⟨k1, k2, _⟩ := hok k hlt
      have J1 : Hid (o k = 129 → jn o (k + 1) = jn o k + 1) := jn_run o k
      have J2 : Hid (o k = 130 → jn o (k + 1) = jn o k + 1) := jn_apart o k
      have J3 : Hid (¬ o k = 129 → ¬ o k = 130 → jn o (k + 1) = jn o k) := jn_len o k
      have H1 : Hid (o k = 129 → ab o L (k + 1) = ab o L k) := ab_run o L k
      have H2 : Hid (o k = 130 → ab o L (k + 1) = ab o L k + L (jn o k)) := ab_apart o L k
      have H3 : Hid (¬ o k = 129 → ¬ o k = 130 → ab o L (k + 1) = ab o L k + (o k).toNat) := ab_len o L k
      clear hc h hok
      revert g hx k1 k2 J1 J2 J3 H1 H2 H3
      generalize o k = x
      intro g hx k1 k2 J1 J2 J3 H1 H2 H3
      by_cases e : x = 129
      · have H : Hid (ab o L (k + 1) = ab o L k) := H1.out e
        have J : Hid (jn o (k + 1) = jn o k + 1) := J1.out e
        subst e
        clear H1 H2 H3 J1 J2 J3 k1 k2 hr hL
        go_wp2
        go_round
        case rel => exact ⟨k + 1, by omega, by go_num, by rw [J.out]; go_num, by rw [H.out]⟩
        case measure => simp [intOf]; omega
      · by_cases e' : x = 130
        · have H : Hid (ab o L (k + 1) = ab o L k + L (jn o k)) := H2.out e'
          have J : Hid (jn o (k + 1) = jn o k + 1) := J2.out e'
          have hj := k2 e'
          obtain ⟨b1, off1, rfl, hb1, hc1⟩ := hr.at hj
          have g1 := hc1 _ hj
          have hl1 := hL _ hj
          subst e'
          clear H1 H2 H3 J1 J2 J3 k1 k2 hr hL hc1
          revert H g1 hl1
          generalize A (jn o k) = ak
          generalize C (jn o k) = ck
          generalize L (jn o k) = lk
          intro H g1 hl1
          go_wp2
          go_round
          case rel => exact ⟨k + 1, by omega, by go_num, by rw [J.out]; go_num, by rw [H.out]; go_num⟩
          case measure => simp [intOf]; omega
        · have H : Hid (ab o L (k + 1) = ab o L k + x.toNat) := H3.out e e'
          have J : Hid (jn o (k + 1) = jn o k) := J3.out e e'
          have eb : (x == 129) = false := by simpa using e
          have eb' : (x == 130) = false := by simpa using e'
          clear H1 H2 H3 J1 J2 J3 k1 k2 e e' hr hL
          go_wp2
          go_round
          case rel => exact ⟨k + 1, by omega, by go_num, by rw [J.out], by rw [H.out]; go_num⟩
          case measure => simp [intOf]; omega
    · have e : k = p := by omega
      subst e
      clear h hr hL hok
      go_wp2
      go_ret
      exact ⟨rfl, rfl⟩
end Go.Proofs.Qxb6627947a
