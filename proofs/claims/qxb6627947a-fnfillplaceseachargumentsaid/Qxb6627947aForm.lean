/-
  The contracts of wellFormed (7), sizeOK (6) and the two length bounds (5, 16): what a 'true' of theirs says.
-/
import Derived.Test.Qxb6627947aCount
namespace Go.Proofs.Qxb6627947a
open Go.ChangeShapes Go.WideShapes Go.ChangeAt Go.RowKit

/-- IT ANSWERS A BOOL; WHERE THAT IS true, P HOLDS. -/
def Says (P : Prop) (e : Ending) : Prop := ∃ b : Bool, e = .returned (.bool b) ∧ (b = true → P)
theorem says_no (P : Prop) : Says P (.returned (.bool false)) := ⟨false, rfl, fun h => (by cases h)⟩
theorem says_yes {P : Prop} (h : P) : Says P (.returned (.bool true)) := ⟨true, rfl, fun _ => h⟩

theorem ok_snoc {o : Nat → Int} {L : Nat → Nat} {nr k : Nat} (h : ∀ i, i < k → okAt o L nr i) (hk : okAt o L nr k) : ∀ i, i < k + 1 → okAt o L nr i := fun i hi => by
  by_cases e : i = k
  · subst e; exact hk
  · exact h i (by omega)

set_option maxHeartbeats 2000000 in
theorem wellFormed_any {w : World} {a : Option Addr} {n cap : Nat} {o : Nat → Int} {ar : Option Addr} {nr cr : Nat} {A : Nat → Option Addr} {L C : Nat → Nat} (na : Nat) (h : ByteRow w a n o) (hr : SlRow w ar nr A L C) (hm : n ≤ 1048576) (hnr : nr ≤ 1048576)
    (hL : ∀ j, j < nr → L j ≤ 1048576) :
    Calls Try.prog 7 #[.slice a n cap, .slice ar nr cr, .int .i64 na] w fun e w' => Says ((∀ i, i < n → okAt o L nr i) ∧ kn o n ≤ na) e ∧ w = w' := by
  go_enter Try.func7, Try.ntmps7
  go_wp2
  go_loop [7, 8, 9, 10] (fun l j k p => ∃ q : Nat, q ≤ n ∧ p = .int .i64 q ∧ k = .int .i64 (kn o q) ∧ j = .int .i64 (jn o q) ∧ l = .int .i64 (left o L q) ∧ (∀ i, i < q → okAt o L nr i) ∧ 0 ≤ left o L q ∧ left o L q ≤ 1048576) (fun _ _ _ p => n - (intOf p).toNat)
  case atStart => exact ⟨0, Nat.zero_le _, rfl, rfl, rfl, rfl, fun i hi => by omega, by simp [left], by simp [left]⟩
  case round =>
    obtain ⟨k, hk, rfl, rfl, rfl, rfl, hok, hl0, hl1⟩ := hrel
    have hle := jn_le o k
    have hle2 := kn_le o k
    by_cases hlt : k < n
    · obtain ⟨b, off, rfl, hb, hc⟩ := h.at (j := k) (by omega)
      have g := hc k (by omega)
      have hx := h.2 k
      clear hc
      by_cases e : o k = 129
      · by_cases hj : jn o k < nr
        · have J : Hid (jn o (k + 1) = jn o k + 1) := jn_run o k e
          have K : Hid (kn o (k + 1) = kn o k) := kn_run o k e
          have H : Hid (left o L (k + 1) = (L (jn o k) : Int)) := left_run o L k e
          have HO : Hid (∀ i, i < k + 1 → okAt o L nr i) := ok_snoc hok ⟨fun _ => hj, fun _ => hj, fun h => absurd e h⟩
          obtain ⟨b1, off1, rfl, hb1, hc1⟩ := hr.at hj
          have g1 := hc1 _ hj
          have hl2 := hL _ hj
          rw [e] at g
          clear hok h hr hL hc1 hx e
          revert H g1 hl2
          generalize A (jn o k) = ak
          generalize C (jn o k) = ck
          generalize L (jn o k) = lk
          intro H g1 hl2
          go_wp2
          go_round
          case rel => exact ⟨k + 1, by omega, by go_num, by rw [K.out], by rw [J.out]; go_num, by rw [H.out], HO.out, by rw [H.out]; omega, by rw [H.out]; omega⟩
          case measure => simp [intOf]; omega
        · rw [e] at g
          clear hok h hr hL hx e
          go_wp2
          go_ret
          exact ⟨says_no _, rfl⟩
      · by_cases e' : o k = 130
        · by_cases hj : jn o k < nr
          · have J : Hid (jn o (k + 1) = jn o k + 1) := jn_apart o k e'
            have K : Hid (kn o (k + 1) = kn o k + 1) := kn_arg o k e
            have H : Hid (left o L (k + 1) = left o L k) := left_apart o L k e'
            have HO : Hid (∀ i, i < k + 1 → okAt o L nr i) := ok_snoc hok ⟨fun _ => hj, fun _ => hj, fun _ h => absurd e' h⟩
            rw [e'] at g
            clear hok h hr hL hx e e'
            go_wp2
            go_round
            case rel => exact ⟨k + 1, by omega, by go_num, by rw [K.out]; go_num, by rw [J.out]; go_num, by rw [H.out], HO.out, by rw [H.out]; omega, by rw [H.out]; omega⟩
            case measure => simp [intOf]; omega
          · rw [e'] at g
            clear hok h hr hL hx e e'
            go_wp2
            go_ret
            exact ⟨says_no _, rfl⟩
        · have J : Hid (jn o (k + 1) = jn o k) := jn_len o k e e'
          have K : Hid (kn o (k + 1) = kn o k + 1) := kn_arg o k e
          have H : Hid (left o L (k + 1) = left o L k - o k) := left_len o L k e e'
          have HO : Hid (o k ≤ 128 → o k ≤ left o L k → ∀ i, i < k + 1 → okAt o L nr i) := fun h1 h2 => ok_snoc hok ⟨fun h => absurd h e, fun h => absurd h e', fun _ _ => ⟨h1, h2⟩⟩
          clear hok h hr hL
          revert g hx e e' H HO
          generalize o k = x
          intro g hx e e' H HO
          have eb : (x == 129) = false := by simpa using e
          have eb' : (x == 130) = false := by simpa using e'
          clear e e'
          by_cases h1 : x ≤ 128
          · by_cases h2 : x ≤ left o L k
            · have HO2 : Hid (∀ i, i < k + 1 → okAt o L nr i) := HO.out h1 h2
              clear HO
              go_wp2
              go_round
              case rel => exact ⟨k + 1, by omega, by go_num, by rw [K.out]; go_num, by rw [J.out], by rw [H.out], HO2.out, by rw [H.out]; omega, by rw [H.out]; omega⟩
              case measure => simp [intOf]; omega
            · clear HO
              go_wp2
              go_ret
              exact ⟨says_no _, rfl⟩
          · clear HO
            go_wp2
            go_ret
            exact ⟨says_no _, rfl⟩
    · have e : k = n := by omega
      subst e
      have HO : Hid (∀ i, i < k → okAt o L nr i) := hok
      clear h hr hL hok
      by_cases hkk : kn o k ≤ na
      · have HK : Hid (kn o k ≤ na) := hkk
        go_wp2
        go_ret
        first
        | exact ⟨says_yes ⟨HO.out, HK.out⟩, rfl⟩
        | exact ⟨says_yes HO.out, rfl⟩
      · go_wp2
        go_ret
        exact ⟨says_no _, rfl⟩

set_option maxHeartbeats 2000000 in
set_option maxRecDepth 10000 in
theorem zz5_any {w : World} {a0 a1 a2 a3 : Option Addr} {n0 c0 n1 c1 n2 c2 n3 c3 : Nat} {A1 A3 : Nat → Option Addr} {L1 C1 L3 C3 : Nat → Nat} (h1 : SlRow w a1 n1 A1 L1 C1) (h3 : SlRow w a3 n3 A3 L3 C3) :
    Calls Try.prog 5 #[.slice a0 n0 c0, .slice a1 n1 c1, .slice a2 n2 c2, .slice a3 n3 c3] w fun e w' => Says True e ∧ w = w' := by
  go_enter Try.func5, Try.ntmps5
  go_wp2
  all_goals try (go_ret; exact ⟨says_no _, rfl⟩)
  go_loop [9, 10] (fun s i => ∃ k t : Nat, k ≤ n1 ∧ t ≤ 1048576 ∧ i = .int .i64 k ∧ s = .int .i64 t) (fun _ i => n1 - (intOf i).toNat)
  case atStart => exact ⟨0, n0 + n1, Nat.zero_le _, by omega, rfl, by go_num⟩
  case round =>
    obtain ⟨k, t, hk, ht, rfl, rfl⟩ := hrel
    by_cases hlt : k < n1
    · obtain ⟨b, off, rfl, hb, hc⟩ := h1.at hlt
      have g := hc k hlt
      clear h1 h3 hc
      revert g
      generalize A1 k = ak
      generalize C1 k = ck
      generalize L1 k = lk
      intro g
      go_wp2
      all_goals try (go_ret; exact ⟨says_no _, rfl⟩)
      go_round
      case rel => exact ⟨k + 1, t + lk, by omega, by omega, by go_num, by go_num⟩
      case measure => simp [intOf]; omega
    · clear h1
      go_wp2
      all_goals try (go_ret; exact ⟨says_no _, rfl⟩)
      go_loop [9, 11] (fun s i => ∃ k t : Nat, k ≤ n3 ∧ t ≤ 1048576 ∧ i = .int .i64 k ∧ s = .int .i64 t) (fun _ i => n3 - (intOf i).toNat)
      case atStart => exact ⟨0, t + n2 + n3, Nat.zero_le _, by omega, rfl, by go_num⟩
      case round =>
        clear ht hk hlt
        obtain ⟨k2, t2, hk, ht, rfl, rfl⟩ := hrel
        by_cases hlt : k2 < n3
        · obtain ⟨b, off, rfl, hb, hc⟩ := h3.at hlt
          have g := hc k2 hlt
          clear h3 hc
          revert g
          generalize A3 k2 = ak
          generalize C3 k2 = ck
          generalize L3 k2 = lk
          intro g
          go_wp2
          all_goals try (go_ret; exact ⟨says_no _, rfl⟩)
          go_round
          case rel => exact ⟨k2 + 1, t2 + lk, by omega, by omega, by go_num, by go_num⟩
          case measure => simp [intOf]; omega
        · clear h3
          go_wp2
          go_ret
          exact ⟨says_yes trivial, rfl⟩

set_option maxHeartbeats 2000000 in
set_option maxRecDepth 10000 in
theorem zz16_any {w : World} {a0 a1 a2 a3 : Option Addr} {n0 c0 n1 c1 n2 c2 n3 c3 : Nat} {A1 A3 : Nat → Option Addr} {L1 C1 L3 C3 : Nat → Nat} (x4 : Int) (h1 : SlRow w a1 n1 A1 L1 C1) (h3 : SlRow w a3 n3 A3 L3 C3) :
    Calls Try.prog 16 #[.slice a0 n0 c0, .slice a1 n1 c1, .slice a2 n2 c2, .slice a3 n3 c3, .int .i64 x4] w fun e w' => Says True e ∧ w = w' := by
  go_enter Try.func16, Try.ntmps16
  go_wp2
  all_goals try (go_ret; exact ⟨says_no _, rfl⟩)
  go_loop [11, 12] (fun s i => ∃ k t : Nat, k ≤ n1 ∧ t ≤ 1048576 ∧ i = .int .i64 k ∧ s = .int .i64 t) (fun _ i => n1 - (intOf i).toNat)
  case atStart => exact ⟨0, n0 + n1, Nat.zero_le _, by omega, rfl, by go_num⟩
  case round =>
    obtain ⟨k, t, hk, ht, rfl, rfl⟩ := hrel
    by_cases hlt : k < n1
    · obtain ⟨b, off, rfl, hb, hc⟩ := h1.at hlt
      have g := hc k hlt
      clear h1 h3 hc
      revert g
      generalize A1 k = ak
      generalize C1 k = ck
      generalize L1 k = lk
      intro g
      go_wp2
      all_goals try (go_ret; exact ⟨says_no _, rfl⟩)
      go_round
      case rel => exact ⟨k + 1, t + lk, by omega, by omega, by go_num, by go_num⟩
      case measure => simp [intOf]; omega
    · clear h1
      go_wp2
      all_goals try (go_ret; exact ⟨says_no _, rfl⟩)
      go_loop [11, 13] (fun s i => ∃ k t : Nat, k ≤ n3 ∧ t ≤ 1048576 ∧ i = .int .i64 k ∧ s = .int .i64 t) (fun _ i => n3 - (intOf i).toNat)
      case atStart => exact ⟨0, t + n2 + n3, Nat.zero_le _, by omega, rfl, by go_num⟩
      case round =>
        clear ht hk hlt
        obtain ⟨k2, t2, hk, ht, rfl, rfl⟩ := hrel
        by_cases hlt : k2 < n3
        · obtain ⟨b, off, rfl, hb, hc⟩ := h3.at hlt
          have g := hc k2 hlt
          clear h3 hc
          revert g
          generalize A3 k2 = ak
          generalize C3 k2 = ck
          generalize L3 k2 = lk
          intro g
          go_wp2
          all_goals try (go_ret; exact ⟨says_no _, rfl⟩)
          go_round
          case rel => exact ⟨k2 + 1, t2 + lk, by omega, by omega, by go_num, by go_num⟩
          case measure => simp [intOf]; omega
        · clear h3
          go_wp2
          go_ret
          exact ⟨says_yes trivial, rfl⟩

structure SizeFacts (n0 n1 n2 n3 : Nat) (L1 L3 : Nat → Nat) : Prop where
  f0 : n0 ≤ 1048576
  f1 : n1 ≤ 43690
  f2 : n2 ≤ 1048576
  f3 : n3 ≤ 43690
  l1 : ∀ j, j < n1 → L1 j ≤ 1048576
  l3 : ∀ j, j < n3 → L3 j ≤ 1048576

theorem le_snoc {L : Nat → Nat} {k M : Nat} (h : ∀ j, j < k → L j ≤ M) (hk : L k ≤ M) : ∀ j, j < k + 1 → L j ≤ M := fun j hj => by
  by_cases e : j = k
  · subst e; exact hk
  · exact h j (by omega)

set_option maxHeartbeats 2000000 in
set_option maxRecDepth 10000 in
theorem sizeOK_any {w : World} {a0 a1 a2 a3 : Option Addr} {n0 c0 n1 c1 n2 c2 n3 c3 : Nat} {A1 A3 : Nat → Option Addr} {L1 C1 L3 C3 : Nat → Nat} (h1 : SlRow w a1 n1 A1 L1 C1) (h3 : SlRow w a3 n3 A3 L3 C3) :
    Calls Try.prog 6 #[.slice a0 n0 c0, .slice a1 n1 c1, .slice a2 n2 c2, .slice a3 n3 c3] w fun e w' => Says (SizeFacts n0 n1 n2 n3 L1 L3) e ∧ w = w' := by
  by_cases f0 : n0 ≤ 1048576
  case neg =>
    go_enter Try.func6, Try.ntmps6
    go_wp2
    go_ret
    exact ⟨says_no _, rfl⟩
  by_cases f2 : n2 ≤ 1048576
  case neg =>
    go_enter Try.func6, Try.ntmps6
    go_wp2
    go_ret
    exact ⟨says_no _, rfl⟩
  by_cases f1 : n1 ≤ 43690
  case neg =>
    go_enter Try.func6, Try.ntmps6
    go_wp2
    go_ret
    exact ⟨says_no _, rfl⟩
  by_cases f3 : n3 ≤ 43690
  case neg =>
    go_enter Try.func6, Try.ntmps6
    go_wp2
    go_ret
    exact ⟨says_no _, rfl⟩
  by_cases ft : n0 + n2 + 24 * n1 + 24 * n3 ≤ 1048576
  case neg =>
    go_enter Try.func6, Try.ntmps6
    go_wp2
    go_ret
    exact ⟨says_no _, rfl⟩
  have HF : Hid ((∀ j, j < n1 → L1 j ≤ 1048576) → (∀ j, j < n3 → L3 j ≤ 1048576) → SizeFacts n0 n1 n2 n3 L1 L3) := fun x y => ⟨f0, f1, f2, f3, x, y⟩
  go_enter Try.func6, Try.ntmps6
  go_wp2
  go_loop [9, 10] (fun s i => ∃ k t : Nat, k ≤ n1 ∧ t ≤ 1048576 ∧ i = .int .i64 k ∧ s = .int .i64 t ∧ ∀ j, j < k → L1 j ≤ 1048576) (fun _ i => n1 - (intOf i).toNat)
  case atStart => exact ⟨0, n0 + n2 + 24 * n1 + 24 * n3, Nat.zero_le _, by omega, rfl, by go_num, fun j hj => by omega⟩
  case round =>
    obtain ⟨k, t, hk, ht, rfl, rfl, hl⟩ := hrel
    by_cases hlt : k < n1
    · obtain ⟨b, off, rfl, hb, hc⟩ := h1.at hlt
      have g := hc k hlt
      have HS : Hid (L1 k ≤ 1048576 → ∀ j, j < k + 1 → L1 j ≤ 1048576) := le_snoc hl
      clear h1 h3 hc hl
      revert g HS
      generalize A1 k = ak
      generalize C1 k = ck
      generalize L1 k = lk
      intro g HS
      by_cases hx : lk ≤ 1048576
      case neg =>
        go_wp2
        go_ret
        exact ⟨says_no _, rfl⟩
      have HX : Hid (∀ j, j < k + 1 → L1 j ≤ 1048576) := HS.out hx
      clear HS
      by_cases hx2 : t + lk ≤ 1048576
      case neg =>
        go_wp2
        go_ret
        exact ⟨says_no _, rfl⟩
      go_wp2
      go_round
      case rel => exact ⟨k + 1, t + lk, by omega, by omega, by go_num, by go_num, HX.out⟩
      case measure => simp [intOf]; omega
    · have e : k = n1 := by omega
      subst e
      have HL : Hid (∀ j, j < k → L1 j ≤ 1048576) := hl
      clear h1 hl
      go_wp2
      go_loop [9, 11] (fun s i => ∃ k t : Nat, k ≤ n3 ∧ t ≤ 1048576 ∧ i = .int .i64 k ∧ s = .int .i64 t ∧ ∀ j, j < k → L3 j ≤ 1048576) (fun _ i => n3 - (intOf i).toNat)
      case atStart => exact ⟨0, t, Nat.zero_le _, by omega, rfl, by go_num, fun j hj => by omega⟩
      case round =>
        clear ht hk hlt
        obtain ⟨k2, t2, hk, ht, rfl, rfl, hl⟩ := hrel
        by_cases hlt : k2 < n3
        · obtain ⟨b, off, rfl, hb, hc⟩ := h3.at hlt
          have g := hc k2 hlt
          have HS : Hid (L3 k2 ≤ 1048576 → ∀ j, j < k2 + 1 → L3 j ≤ 1048576) := le_snoc hl
          clear h3 hc hl
          revert g HS
          generalize A3 k2 = ak
          generalize C3 k2 = ck
          generalize L3 k2 = lk
          intro g HS
          by_cases hx : lk ≤ 1048576
          case neg =>
            go_wp2
            go_ret
            exact ⟨says_no _, rfl⟩
          have HX : Hid (∀ j, j < k2 + 1 → L3 j ≤ 1048576) := HS.out hx
          clear HS
          by_cases hx2 : t2 + lk ≤ 1048576
          case neg =>
            go_wp2
            go_ret
            exact ⟨says_no _, rfl⟩
          go_wp2
          go_round
          case rel => exact ⟨k2 + 1, t2 + lk, by omega, by omega, by go_num, by go_num, HX.out⟩
          case measure => simp [intOf]; omega
        · have e : k2 = n3 := by omega
          subst e
          have HP : Hid (SizeFacts n0 k n2 k2 L1 L3) := HF.out HL.out hl
          clear h3 hl HF HL
          go_wp2
          go_ret
          exact ⟨says_yes HP.out, rfl⟩
end Go.Proofs.Qxb6627947a
