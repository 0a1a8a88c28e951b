/-
  The contracts of lastRun (13), carvedBetween (14), sameBytes (15) as a quiet callee; and where an argument that was carved lies.
-/
import Derived.Test.Qxb6627947aSame
namespace Go.Proofs.Qxb6627947a
open Go.ChangeShapes Go.WideShapes Go.ChangeAt Go.RowKit

/-! ### the plain part -/
/-- the last run's op ahead of p, or -1 -/
def lrI (o : Nat → Int) : Nat → Int
  | 0 => -1
  | p + 1 => if o p = 129 then (p : Int) else lrI o p
/-- what was carved between the ops q and p -/
def cb (o : Nat → Int) (q : Nat) : Nat → Nat
  | 0 => 0
  | p + 1 => if q < p ∧ o p ≤ 128 then cb o q p + (o p).toNat else cb o q p

theorem lrI_or (o : Nat → Int) (p : Nat) : (lrI o p = -1 ∧ ∀ i, i < p → ¬ o i = 129) ∨ ∃ m : Nat, lrI o p = (m : Int) ∧ m < p ∧ o m = 129 ∧ ∀ i, m < i → i < p → ¬ o i = 129 := by
  induction p with
  | zero => exact .inl ⟨rfl, fun i hi => by omega⟩
  | succ p ih =>
    by_cases h : o p = 129
    · exact .inr ⟨p, by rw [lrI, if_pos h], by omega, h, fun i h1 h2 => by omega⟩
    · rw [lrI, if_neg h]
      rcases ih with ⟨e, hn⟩ | ⟨m, e, hm, h1, h2⟩
      · refine .inl ⟨e, fun i hi => ?_⟩
        by_cases ei : i = p
        · subst ei; exact h
        · exact hn i (by omega)
      · refine .inr ⟨m, e, by omega, h1, fun i g1 g2 => ?_⟩
        by_cases ei : i = p
        · subst ei; exact h
        · exact h2 i g1 (by omega)
theorem cb_start (o : Nat → Int) (q : Nat) : ∀ p, p ≤ q + 1 → cb o q p = 0 := by
  intro p
  induction p with
  | zero => intro _; rfl
  | succ p ih => intro hp; rw [cb, if_neg (by omega)]; exact ih (by omega)
theorem cb_le (o : Nat → Int) (q : Nat) (p : Nat) : cb o q p ≤ p * 128 := by
  induction p with
  | zero => exact Nat.zero_le _
  | succ p ih => rw [cb]; split <;> omega

section
variable {o : Nat → Int} {R : Nat → Rn} {L : Nat → Nat} {n nr : Nat}
/-- with no run ahead, what is carved is empty -/
theorem rn_first (hb : ∀ i, 0 ≤ o i ∧ o i ≤ 255) (hR : ∀ j, j < nr → (R j).len = L j ∧ (R j).len ≤ (R j).cap) (hok : ∀ i, i < n → okAt o L nr i) (x : Addr) : ∀ p, p ≤ n → (∀ i, i < p → ¬ o i = 129) → rn o R ⟨some x, 0, 0⟩ p = ⟨some x, 0, 0⟩ := by
  intro p
  induction p with
  | zero => intro _ _; rfl
  | succ p ih =>
    intro hp hno
    have ih := ih (by omega) (fun i hi => hno i (by omega))
    have h := hno p (by omega)
    by_cases h' : o p = 130
    · rw [rn_apart _ _ _ p h']; exact ih
    · rw [rn_len _ _ _ p h h', ih]
      obtain ⟨_, g⟩ := (hok p (by omega)).2.2 h h'
      have hl := (rn_left (r0 := ⟨some x, 0, 0⟩) hb hR rfl hok p (by omega)).1
      rw [ih] at hl
      have := hb p
      have hz : (o p).toNat = 0 := by simp at hl; omega
      rw [hz]
      rfl

/-- behind the run's op m: the run is the slice of room, cut by what was carved since -/
theorem rn_since (hb : ∀ i, 0 ≤ o i ∧ o i ≤ 255) (hR : ∀ j, j < nr → (R j).len = L j ∧ (R j).len ≤ (R j).cap) (hok : ∀ i, i < n → okAt o L nr i) (r0 : Rn) (h0 : r0.len = 0) {m : Nat} (hm : o m = 129) : ∀ p, m < p → p ≤ n → (∀ i, m < i → i < p → ¬ o i = 129) →
    (rn o R r0 p).len + cb o m p = (R (jn o m)).len ∧ (rn o R r0 p).cap + cb o m p = (R (jn o m)).cap ∧ ((rn o R r0 p).a = none ↔ (R (jn o m)).a = none) ∧
      (0 < (rn o R r0 p).cap → (rn o R r0 p).a = (R (jn o m)).a.map (·.add (cb o m p))) := by
  intro p
  induction p with
  | zero => intro h; omega
  | succ p ih =>
    intro h1 hp hno
    by_cases e : p = m
    · subst e
      rw [rn_run _ _ _ p hm, cb_start o p (p + 1) (by omega)]
      refine ⟨rfl, rfl, Iff.rfl, fun _ => ?_⟩
      cases (R (jn o p)).a with
      | none => rfl
      | some x => simp [Addr.add]
    · obtain ⟨i1, i2, i3, i4⟩ := ih (by omega) (by omega) (fun i g1 g2 => hno i g1 (by omega))
      have h := hno p (by omega) (by omega)
      by_cases h' : o p = 130
      · rw [rn_apart _ _ _ p h', cb, if_neg (by rw [h']; omega)]
        exact ⟨i1, i2, i3, i4⟩
      · obtain ⟨g0, g⟩ := (hok p (by omega)).2.2 h h'
        obtain ⟨hl, hc⟩ := rn_left (r0 := r0) hb hR h0 hok p (by omega)
        have hbp := hb p
        rw [rn_len _ _ _ p h h', cb, if_pos ⟨by omega, g0⟩]
        simp only [Rn.cut]
        refine ⟨by omega, by omega, ?_, fun hcp => ?_⟩
        · by_cases ec : (rn o R r0 p).cap = (o p).toNat
          · rw [if_pos ec]; exact i3
          · rw [if_neg ec, Option.map_eq_none_iff]; exact i3
        · rw [if_neg (by omega), i4 (by omega)]
          cases (R (jn o m)).a with
          | none => rfl
          | some x =>
            simp only [Option.map_some]
            congr 1
            unfold Addr.add
            by_cases z1 : cb o m p = 0 <;> by_cases z2 : (o p).toNat = 0 <;> simp [z1, z2, Nat.add_assoc]
end

/-! ### lastRun -/
set_option maxHeartbeats 1000000 in
theorem lastRun_any {w : World} {a : Option Addr} {len cap : Nat} {o : Nat → Int} (p : Nat) (h : ByteRow w a len o) (hp : p ≤ len) (hm : p ≤ 1048576) :
    Calls Try.prog 13 #[.slice a len cap, .int .i64 p] w fun e w' => e = .returned (.int .i64 (lrI o p)) ∧ w = w' := by
  go_enter Try.func13, Try.ntmps13
  go_wp2
  go_loop [5] (fun i => ∃ k : Nat, k ≤ p ∧ i = .int .i64 ((k : Int) - 1) ∧ lrI o p = lrI o k) (fun i => (intOf i + 1).toNat)
  case atStart => exact ⟨p, Nat.le_refl _, rfl, rfl⟩
  case round =>
    obtain ⟨k, hk, rfl, hl⟩ := hrel
    cases k with
    | zero =>
      have H : Hid (lrI o p = -1) := hl
      clear h hl
      go_wp2
      go_ret
      exact ⟨by rw [H.out]; rfl, rfl⟩
    | succ k =>
      obtain ⟨b, off, rfl, hb, hc⟩ := h.at (j := k) (by omega)
      have g := hc k (by omega)
      have hx := h.2 k
      have H1 : Hid (o k = 129 → lrI o p = (k : Int)) := fun e => by
        show lrI o p = (k : Int)
        rw [hl, lrI, if_pos e]
      have H2 : Hid (¬ o k = 129 → lrI o p = lrI o k) := fun e => by
        show lrI o p = lrI o k
        rw [hl, lrI, if_neg e]
      have hk1 : ((k + 1 : Nat) : Int) - 1 = (k : Int) := by omega
      rw [hk1]
      clear hc h hl hk1
      revert g hx H1 H2
      generalize o k = x
      intro g hx H1 H2
      by_cases e : x = 129
      · have H : Hid (lrI o p = (k : Int)) := H1.out e
        subst e
        clear H1 H2
        go_wp2
        go_ret
        exact ⟨by rw [H.out]; rfl, rfl⟩
      · have H : Hid (lrI o p = lrI o k) := H2.out e
        have eb : (x == 129) = false := by simpa using e
        clear H1 H2 e
        go_wp2
        go_round
        case rel => exact ⟨k, by omega, rfl, H.out⟩
        case measure => simp [intOf]

/-! ### carvedBetween -/
set_option maxHeartbeats 1000000 in
theorem carvedBetween_any {w : World} {a : Option Addr} {len cap : Nat} {o : Nat → Int} (q p : Nat) (h : ByteRow w a len o) (hq : q < p) (hp : p ≤ len) (hm : p ≤ 1048576) :
    Calls Try.prog 14 #[.slice a len cap, .int .i64 q, .int .i64 p] w fun e w' => e = .returned (.int .i64 (cb o q p)) ∧ w = w' := by
  go_enter Try.func14, Try.ntmps14
  go_wp2
  go_loop [7, 8] (fun s i => ∃ k : Nat, q < k ∧ k ≤ p ∧ i = .int .i64 k ∧ s = .int .i64 (cb o q k)) (fun _ i => p - (intOf i).toNat)
  case atStart => exact ⟨q + 1, by omega, by omega, by go_num, by rw [cb_start o q (q + 1) (Nat.le_refl _)]; rfl⟩
  case round =>
    obtain ⟨k, hqk, hk, rfl, rfl⟩ := hrel
    have hle := cb_le o q k
    by_cases hlt : k < p
    · obtain ⟨b, off, rfl, hb, hc⟩ := h.at (j := k) (by omega)
      have g := hc k (by omega)
      have hx := h.2 k
      have H1 : Hid (o k ≤ 128 → cb o q (k + 1) = cb o q k + (o k).toNat) := fun e => by
        show cb o q (k + 1) = _
        rw [cb, if_pos ⟨hqk, e⟩]
      have H2 : Hid (¬ o k ≤ 128 → cb o q (k + 1) = cb o q k) := fun e => by
        show cb o q (k + 1) = _
        rw [cb, if_neg (fun h => e h.2)]
      clear hc h
      revert g hx H1 H2
      generalize o k = x
      intro g hx H1 H2
      by_cases e : x ≤ 128
      · have H : Hid (cb o q (k + 1) = cb o q k + x.toNat) := H1.out e
        clear H1 H2
        go_wp2
        go_round
        case rel => exact ⟨k + 1, by omega, by omega, by go_num, by rw [H.out]; go_num⟩
        case measure => simp [intOf]; omega
      · have H : Hid (cb o q (k + 1) = cb o q k) := H2.out e
        clear H1 H2
        go_wp2
        go_round
        case rel => exact ⟨k + 1, by omega, by omega, by go_num, by rw [H.out]⟩
        case measure => simp [intOf]; omega
    · have e : k = p := by omega
      subst e
      clear h
      go_wp2
      go_ret
      exact ⟨rfl, rfl⟩

/-! ### sameBytes -/
set_option maxHeartbeats 1000000 in
theorem sameBytesQ {w : World} {a b : Option Addr} {len c d : Nat} {o : Nat → Int} (hn : a = none ↔ b = none) (ha : ByteRow w a len o) (hb : ByteRow w b len o) (hm : len ≤ 1048576) :
    Calls Try.prog 15 #[.slice a len c, .slice b len d] w fun e w' => e = .returned (.bool true) ∧ ∃ q, w' = w.drewN q := by
  have hq := nil22
  have hab : a.isNone = b.isNone := by
    cases a <;> cases b <;> simp at hn ⊢
  clear hn
  go_enter Try.func15, Try.ntmps15
  go_wp2
  go_loopw [5] (fun i wr => ∃ k : Nat, k ≤ len ∧ i = .int .i64 k ∧ ∃ q, wr = w.drewN q) (fun i _ => len - (intOf i).toNat)
  case atStart => exact ⟨0, Nat.zero_le _, rfl, 0, rfl⟩
  case round =>
    obtain ⟨k, hk, rfl, q, rfl⟩ := hrel
    by_cases hlt : k < len
    · obtain ⟨b0, o0, rfl, hb0, hc0⟩ := ha.at hlt
      obtain ⟨b1, o1, rfl, hb1, hc1⟩ := hb.at hlt
      have g0 := hc0 k hlt
      have g1 := hc1 k hlt
      clear ha hb hc0 hc1 hab
      revert g0 g1
      generalize o k = x
      intro g0 g1
      go_wp2_with fail
      go_quiet (fail)
      go_wp2
      go_roundw
      case rel => exact ⟨k + 1, by omega, by go_num, _, rfl⟩
      case measure => simp [intOf]; omega
    · clear ha hb
      go_wp2
      go_ret
      exact ⟨rfl, q, rfl⟩

/-! ### two pointers that are one -/
theorem nptr32 (w : World) (x : Addr) : (binOp .neq 32 (.pointer (some x)) (.pointer (some x))).run Try.prog w = .ok (.bool false) w := by
  obtain ⟨j, hj⟩ := info5some
  have h : ∀ d : Nat, (Op.equalIn (d + 1) 32 (.pointer (some x)) (.pointer (some x))).run Try.prog w = .ok true w := fun d => by
    simp [Op.equalIn, run_underlying Try.underlying32, sizeOf, typeInfo, hj, run_sameAddr_same]
  simp only [binOp]
  simp [Op.equal, Op.maxDepth, h 9999]
theorem nptr28 (w : World) (x : Addr) : (binOp .neq 28 (.pointer (some x)) (.pointer (some x))).run Try.prog w = .ok (.bool false) w := by
  have hs : (Try.prog.info? 22).map (·.size) = some 1 := by kernel_rfl
  cases hj : Try.prog.info? 22 with
  | none => rw [hj] at hs; simp at hs
  | some j =>
    have h : ∀ d : Nat, (Op.equalIn (d + 1) 28 (.pointer (some x)) (.pointer (some x))).run Try.prog w = .ok true w := fun d => by
      simp [Op.equalIn, run_underlying Try.underlying28, sizeOf, typeInfo, hj, run_sameAddr_same]
    simp only [binOp]
    simp [Op.equal, Op.maxDepth, h 9999]
end Go.Proofs.Qxb6627947a
