/-
  Rows of bytes; make and copy; the plain numbers; the contracts of ParseSize (6), isDecimalDigits (7), pow10 (9) and the two length bounds (5, 8).
-/
import Derived.Test.Qxb6627973aRows
import Derived.WalkKit
import Derived.ProofKit
import Derived.Below
import Derived.OpenShut
import Derived.WalkSpells
import Derived.WalkSmall
import Derived.Deep.OwnRows
import Derived.Laws.CopyOwn
namespace Go.Proofs.Qxb6627973a
open Go.ChangeShapes Go.WideShapes Go.ChangeAt Go.RowKit

/-! ### the plain part -/
/-- the number that the first k digits give -/
def val (o : Nat → Int) : Nat → Nat
  | 0 => 0
  | k + 1 => val o k * 10 + (o k - 48).toNat
/-- are the first k bytes digits? -/
def dg (o : Nat → Int) : Nat → Bool
  | 0 => true
  | k + 1 => dg o k && (decide (48 ≤ o k) && decide (o k ≤ 57))
def psB (o : Nat → Int) (n : Nat) : Bool := decide (1 ≤ n) && (decide (n ≤ 18) && dg o n)
def psV (o : Nat → Int) (n : Nat) : Nat := if psB o n = true then val o n else 0

theorem dg_iff (o : Nat → Int) (n : Nat) : dg o n = true ↔ ∀ i, i < n → 48 ≤ o i ∧ o i ≤ 57 := by
  induction n with
  | zero => exact ⟨fun _ i hi => by omega, fun _ => rfl⟩
  | succ n ih =>
    rw [dg, Bool.and_eq_true, ih, Bool.and_eq_true, decide_eq_true_eq, decide_eq_true_eq]
    constructor
    · rintro ⟨h1, h2⟩ i hi
      by_cases e : i = n
      · subst e; exact h2
      · exact h1 i (by omega)
    · intro h
      exact ⟨fun i hi => h i (by omega), h n (by omega)⟩
theorem dg_bad {o : Nat → Int} {n k : Nat} (hk : k < n) (h : ¬ (48 ≤ o k ∧ o k ≤ 57)) : dg o n = false := by
  cases e : dg o n
  · rfl
  · exact absurd ((dg_iff o n).1 e k hk) h
theorem val_lt {o : Nat → Int} : ∀ k, dg o k = true → val o k < 10 ^ k := by
  intro k
  induction k with
  | zero => intro _; exact Nat.one_pos
  | succ k ih =>
    intro h
    rw [dg, Bool.and_eq_true, Bool.and_eq_true, decide_eq_true_eq, decide_eq_true_eq] at h
    have := ih h.1
    rw [val, Nat.pow_succ]
    omega
theorem val_le {o : Nat → Int} {k : Nat} (h : dg o k = true) (hk : k ≤ 17) : val o k ≤ 99999999999999999 := by
  have h1 := val_lt k h
  have h2 : 10 ^ k ≤ 10 ^ 17 := Nat.pow_le_pow_right (by omega) hk
  have h3 : (10 : Nat) ^ 17 = 100000000000000000 := by decide +kernel
  omega
theorem val_le18 {o : Nat → Int} {k : Nat} (h : dg o k = true) (hk : k ≤ 18) : val o k ≤ 999999999999999999 := by
  have h1 := val_lt k h
  have h2 : 10 ^ k ≤ 10 ^ 18 := Nat.pow_le_pow_right (by omega) hk
  have h3 : (10 : Nat) ^ 18 = 1000000000000000000 := by decide +kernel
  omega
/-- a number cut in two -/
theorem val_cut (o : Nat → Int) (k : Nat) : ∀ m, val o (k + m) = val o k * 10 ^ m + val (fun i => o (k + i)) m := by
  intro m
  induction m with
  | zero => simp [val]
  | succ m ih =>
    rw [← Nat.add_assoc, val, ih, val, Nat.pow_succ, Nat.add_mul, Nat.mul_assoc, Nat.add_assoc]
theorem dg_cut (o : Nat → Int) (k m : Nat) : dg o (k + m) = (dg o k && dg (fun i => o (k + i)) m) := by
  rw [Bool.eq_iff_iff, Bool.and_eq_true, dg_iff, dg_iff, dg_iff]
  constructor
  · intro h
    exact ⟨fun i hi => h i (by omega), fun i hi => h (k + i) (by omega)⟩
  · rintro ⟨h1, h2⟩ i hi
    by_cases e : i < k
    · exact h1 i e
    · have := h2 (i - k) (by omega)
      rwa [show k + (i - k) = i by omega] at this

/-! ### rows of bytes -/
/-- THE SLICE (a, len) HOLDS THE BYTES o 0, o 1, .. (where there is one, it has an address). -/
def ByteRow (w : World) (a : Option Addr) (len : Nat) (o : Nat → Int) : Prop :=
  (0 < len → ∃ b off, a = some ⟨b, off, none⟩ ∧ ∀ i, i < len → w.cell? ⟨b, off + i, none⟩ = some (.int .u8 (o i))) ∧ ∀ i, 0 ≤ o i ∧ o i ≤ 255
theorem ByteRow.at {w : World} {a : Option Addr} {len : Nat} {o : Nat → Int} (h : ByteRow w a len o) {j : Nat} (hj : j < len) :
    ∃ b off, a = some ⟨b, off, none⟩ ∧ b < w.heap.size ∧ ∀ i, i < len → w.cell? ⟨b, off + i, none⟩ = some (.int .u8 (o i)) := by
  obtain ⟨b, off, e, hc⟩ := h.1 (by omega)
  exact ⟨b, off, e, World.block_lt_of_cell? w ⟨b, off + j, none⟩ (hc j hj), hc⟩
theorem ByteRow.take {w : World} {a : Option Addr} {len m : Nat} {o : Nat → Int} (h : ByteRow w a len o) (hm : m ≤ len) : ByteRow w a m o := by
  refine ⟨fun hl => ?_, h.2⟩
  obtain ⟨b, off, e, hc⟩ := h.1 (by omega)
  exact ⟨b, off, e, fun i hi => hc i (by omega)⟩
theorem ByteRow.drop {w : World} {b off len : Nat} {o : Nat → Int} (h : ByteRow w (some ⟨b, off, none⟩) len o) {k : Nat} (hk : k ≤ len) : ByteRow w (some ⟨b, off + k, none⟩) (len - k) (fun i => o (k + i)) := by
  refine ⟨fun hl => ?_, fun i => h.2 (k + i)⟩
  obtain ⟨b', off', e, hc⟩ := h.1 (by omega)
  cases e
  exact ⟨b, off + k, rfl, fun i hi => by rw [Nat.add_assoc]; exact hc (k + i) (by omega)⟩
theorem row_bytes {w : World} {b n : Nat} {f : Nat → Value} {o : Nat → Int} (h : w.rowIs b 5 n f) (e : ∀ i, i < n → f i = .int .u8 (o i)) (ho : ∀ i, 0 ≤ o i ∧ o i ≤ 255) : ByteRow w (some ⟨b, 0, none⟩) n o :=
  ⟨fun _ => ⟨b, 0, rfl, fun i hi => by rw [Nat.zero_add, h.cell hi, e i hi]⟩, ho⟩
theorem byte_getD {zs : List Int} (h : ∀ n ∈ zs, (Lit.int .u8 n).wf = true) (j : Nat) : 0 ≤ zs.getD j 0 ∧ zs.getD j 0 ≤ 255 := by
  rw [List.getD_eq_getElem?_getD]
  cases e : zs[j]? with
  | none => exact ⟨by simp, by simp⟩
  | some x => exact bounds_u8 (h x (List.mem_of_getElem? e))

/-- WHAT THE WALK IS TOLD OF A SLICE OF INTEGERS THAT CAME IN: it is nil; or it leads to a row of 'cap' cells, the numbers 'zs' (the first 'len' are its elements, the rest its spare room), each fitting its kind. -/
def IsRow (k : IntKind) (w : World) (a : Option Addr) (len cap : Nat) (zs : List Int) : Prop :=
  (a = none ∧ len = 0 ∧ cap = 0 ∧ zs = []) ∨
  ∃ x, a = some x ∧ len ≤ cap ∧ cap ≤ maxLen ∧ zs.length = cap ∧ (∀ i, i < zs.length → w.cell? (x.add i) = some (.int k (zs.getD i 0))) ∧ ∀ n ∈ zs, (Lit.int k n).wf = true
theorem IsRow.bytes {w : World} {a : Option Addr} {len cap : Nat} {zs : List Int} (h : IsRow .u8 w a len cap zs) : ∃ o, ByteRow w a len o := by
  rcases h with ⟨rfl, rfl, rfl, rfl⟩ | ⟨x, rfl, hl, hm, hz, hc, hw⟩
  · exact ⟨fun _ => 0, fun hp => by omega, fun _ => ⟨Int.le_refl _, by show (0 : Int) ≤ 255; decide⟩⟩
  · refine ⟨fun i => zs.getD i 0, fun hp => ?_, fun i => byte_getD hw i⟩
    obtain ⟨b, off, spot⟩ := x
    have hspot : spot = none := by simpa [Addr.add] using World.cell?_spot (hc 0 (by omega))
    subst hspot
    exact ⟨b, off, rfl, fun j hj => by rw [← Go.WideShapes.add_plain]; exact hc j (by omega)⟩

/-! ### make, and copy into what was made -/
theorem info5 : (Try.prog.info? 5).map (fun i => (i.zero, i.size, i.bytes)) = some (some (.int .u8 0), 1, 1) := by kernel_rfl
theorem size5 : (Try.prog.info? 5).map (·.size) = some 1 := by kernel_rfl
theorem make22 (n : Nat) (hn : n ≤ 1048576) (w : World) : (Instr.makeSlice 22 (.int .i64 (n : Int)) (.int .i64 (n : Int))).run Try.prog w = .ok (.slice (some ⟨w.heap.size, 0, none⟩) n n) (w.alloc (.cells (madeCells #[.int .u8 0] n) 5)) :=
  run_make_row' 22 5 (.int .u8 0) 1 Try.underlying22 info5 rfl .i64 .i64 n (by omega) (by omega) w
theorem nnil22 (w : World) (a : Option Addr) (n c : Nat) : (binOp .neq 22 (.slice a n c) (.slice none 0 0)).run Try.prog w = .ok (.bool (!a.isNone)) w := run_neq_slice_nil_any w 22 5 a n c 0 0 Try.underlying22

theorem copy_made {w : World} {a : Option Addr} {n cap : Nat} {o : Nat → Int} (h : ByteRow w a n o) (ty : TypeId) :
    ∃ w2, (Builtin.copy_ #[22, 22] ty #[.slice (some ⟨w.heap.size, 0, none⟩) n n, .slice a n cap]).run Try.prog (w.alloc (.cells (madeCells #[.int .u8 0] n) 5)) = .ok (.int .i64 n) w2 ∧
      w2.rowIs w.heap.size 5 n (fun i => .int .u8 (o i)) ∧ Below w.heap.size w w2 := by
  have hal : Below w.heap.size w (w.alloc (.cells (madeCells #[.int .u8 0] n) 5)) := (Below.refl _ _).alloc (Nat.le_refl _) _
  have hrow := World.rowIs_made w (.int .u8 0) n 5
  by_cases hn : n = 0
  · subst hn
    refine ⟨_, run_copy_none (P := Try.prog) _ 22 22 ty 5 _ _ 0 0 0 cap Try.underlying22 size5 rfl, hrow.congr (fun i hi => by omega), hal⟩
  · obtain ⟨b, off, rfl, hb, hc⟩ := h.at (j := 0) (by omega)
    obtain ⟨c, hg, hs, _⟩ := hrow
    have hrun := run_copy_row (P := Try.prog) (w.alloc (.cells (madeCells #[.int .u8 0] n) 5)) 22 22 ty 5 w.heap.size 0 n n ⟨b, off, none⟩ n cap c 5 ((List.range n).map fun i => Value.int .u8 (o i))
      Try.underlying22 size5 hg (by simp) (fun j v hj => by
        have hjn : j < n := by
          have := (List.getElem?_eq_some_iff.1 hj).1
          simpa using this
        rw [List.getElem?_map, List.getElem?_range hjn] at hj
        simp only [Option.map_some, Option.some.injEq] at hj
        subst hj
        rw [WideShapes.add_plain, hal.cell (p := ⟨b, off + j, none⟩) hb]
        exact hc j hjn) (by simp [hs]) (fun v hv => by
        obtain ⟨i, _, rfl⟩ := List.mem_map.1 hv
        rfl)
    refine ⟨_, by simpa [goInt] using hrun, ⟨_, setRow_heap _ _ c _ 5 _ hg, ?_, fun i hi => ?_⟩, below_setRow hal (Nat.le_refl _) _⟩
    · simp [hs]
    · simp [hs, hi]

/-! ### the contracts -/
set_option maxHeartbeats 1000000 in
theorem digits_any {w : World} {a : Option Addr} {n cap : Nat} {o : Nat → Int} (h : ByteRow w a n o) (hm : n ≤ 1048576) :
    Calls Try.prog 7 #[.slice a n cap] w fun e w' => e = .returned (.bool (dg o n)) ∧ w = w' := by
  go_enter Try.func7, Try.ntmps7
  go_wp2
  go_loop [3] (fun i => ∃ k : Nat, k ≤ n ∧ i = .int .i64 k ∧ dg o k = true) (fun i => n - (intOf i).toNat)
  case atStart => exact ⟨0, Nat.zero_le _, rfl, rfl⟩
  case round =>
    obtain ⟨k, hk, rfl, hd⟩ := hrel
    by_cases hlt : k < n
    · obtain ⟨b, off, rfl, hb, hc⟩ := h.at hlt
      have g := hc k hlt
      have hx := h.2 k
      have H1 : Hid (48 ≤ o k → o k ≤ 57 → dg o (k + 1) = true) := fun h1 h2 => by
        show dg o (k + 1) = true
        rw [dg, hd]; simp [h1, h2]
      have H2 : Hid (¬ (48 ≤ o k ∧ o k ≤ 57) → dg o n = false) := fun e => dg_bad hlt e
      clear h hc hd
      revert g hx H1 H2
      generalize o k = x
      intro g hx H1 H2
      by_cases c1 : 48 ≤ x
      · by_cases c2 : x ≤ 57
        · have H : Hid (dg o (k + 1) = true) := H1.out c1 c2
          clear H1 H2
          go_wp2
          go_round
          case rel => exact ⟨k + 1, by omega, by go_num, H.out⟩
          case measure => simp [intOf]; omega
        · have H : Hid (dg o n = false) := H2.out (fun e => c2 e.2)
          clear H1 H2
          go_wp2
          go_ret
          exact ⟨by rw [H.out]; rfl, rfl⟩
      · have H : Hid (dg o n = false) := H2.out (fun e => c1 e.1)
        clear H1 H2
        go_wp2
        go_ret
        exact ⟨by rw [H.out]; rfl, rfl⟩
    · have e : k = n := by omega
      subst e
      have H : Hid (dg o k = true) := hd
      clear h hd
      go_wp2
      go_ret
      exact ⟨by rw [H.out]; rfl, rfl⟩

set_option maxHeartbeats 1000000 in
theorem parse_any {w : World} {a : Option Addr} {n cap : Nat} {o : Nat → Int} (h : ByteRow w a n o) (hm : n ≤ 1048576) :
    Calls Try.prog 6 #[.slice a n cap] w fun e w' => e = .returned (.tuple #[.int .i64 (psV o n), .bool (psB o n)]) ∧ w = w' := by
  by_cases h0 : n = 0
  · subst h0
    have HB : Hid (psB o 0 = false) := rfl
    have HV : Hid (psV o 0 = 0) := rfl
    clear h
    go_enter Try.func6, Try.ntmps6
    go_wp2
    go_ret2
    exact ⟨by rw [HB.out, HV.out]; rfl, rfl⟩
  by_cases h18 : n ≤ 18
  case neg =>
    have hb : psB o n = false := by simp [psB, h18]
    have HB : Hid (psB o n = false) := hb
    have HV : Hid (psV o n = 0) := by show psV o n = 0; simp [psV, hb]
    have hn0 : ((n : Int) == 0) = false := by simpa using h0
    clear h hb
    go_enter Try.func6, Try.ntmps6
    go_wp2
    go_ret2
    exact ⟨by rw [HB.out, HV.out]; rfl, rfl⟩
  have hn0 : ((n : Int) == 0) = false := by simpa using h0
  go_enter Try.func6, Try.ntmps6
  go_wp2
  go_loop [4, 17] (fun s i => ∃ k : Nat, k ≤ n ∧ i = .int .i64 k ∧ s = .int .i64 (val o k) ∧ dg o k = true) (fun _ i => n - (intOf i).toNat)
  case atStart => exact ⟨0, Nat.zero_le _, rfl, rfl, rfl⟩
  case round =>
    obtain ⟨k, hk, rfl, rfl, hd⟩ := hrel
    by_cases hlt : k < n
    · obtain ⟨b, off, rfl, hb, hc⟩ := h.at hlt
      have g := hc k hlt
      have hx := h.2 k
      have hv := val_le hd (by omega)
      have H1 : Hid (48 ≤ o k → o k ≤ 57 → dg o (k + 1) = true) := fun h1 h2 => by
        show dg o (k + 1) = true
        rw [dg, hd]; simp [h1, h2]
      have H2 : Hid (¬ (48 ≤ o k ∧ o k ≤ 57) → psB o n = false ∧ psV o n = 0) := fun e => by
        have hb : psB o n = false := by simp [psB, dg_bad hlt e]
        exact ⟨hb, by simp [psV, hb]⟩
      have HV : Hid (val o (k + 1) = val o k * 10 + (o k - 48).toNat) := rfl
      clear h hc hd
      revert g hx H1 H2 HV
      generalize o k = x
      generalize val o k = v at *
      intro g hx H1 H2 HV
      by_cases c1 : 48 ≤ x
      · by_cases c2 : x ≤ 57
        · have H : Hid (dg o (k + 1) = true) := H1.out c1 c2
          clear H1 H2
          go_wp2
          go_round
          case rel => exact ⟨k + 1, by omega, by go_num, by rw [HV.out]; go_num, H.out⟩
          case measure => simp [intOf]; omega
        · obtain ⟨hb1, hb2⟩ := H2.out (fun e => c2 e.2)
          have HB : Hid (psB o n = false) := hb1
          have HV2 : Hid (psV o n = 0) := hb2
          clear H1 H2 hb1 hb2
          go_wp2
          go_ret2
          exact ⟨by rw [HB.out, HV2.out]; rfl, rfl⟩
      · obtain ⟨hb1, hb2⟩ := H2.out (fun e => c1 e.1)
        have HB : Hid (psB o n = false) := hb1
        have HV2 : Hid (psV o n = 0) := hb2
        clear H1 H2 hb1 hb2
        go_wp2
        go_ret2
        exact ⟨by rw [HB.out, HV2.out]; rfl, rfl⟩
    · have e : k = n := by omega
      subst e
      have hb1 : psB o k = true := by simp [psB, hd]; omega
      have HB : Hid (psB o k = true) := hb1
      have HV2 : Hid (psV o k = val o k) := by show psV o k = val o k; simp [psV, hb1]
      clear h hd hb1
      go_wp2
      go_ret2
      exact ⟨by rw [HB.out, HV2.out]; rfl, rfl⟩

theorem pow_le17 {k : Nat} (hk : k ≤ 17) : 10 ^ k ≤ 100000000000000000 := by
  have h2 : 10 ^ k ≤ 10 ^ 17 := Nat.pow_le_pow_right (by omega) hk
  have h3 : (10 : Nat) ^ 17 = 100000000000000000 := by decide +kernel
  omega
def p10 (k : Nat) : Nat := 10 ^ k
theorem p10_le {k : Nat} (hk : k ≤ 17) : p10 k ≤ 100000000000000000 := pow_le17 hk
set_option maxHeartbeats 1000000 in
theorem pow10_any (n : Nat) (w : World) (hn : n ≤ 18) :
    Calls Try.prog 9 #[.int .i64 n] w fun e w' => e = .returned (.int .i64 (p10 n)) ∧ w = w' := by
  go_enter Try.func9, Try.ntmps9
  go_wp2
  go_loop [3, 4] (fun p i => ∃ k : Nat, k ≤ n ∧ i = .int .i64 k ∧ p = .int .i64 (p10 k)) (fun _ i => n - (intOf i).toNat)
  case atStart => exact ⟨0, Nat.zero_le _, rfl, rfl⟩
  case round =>
    obtain ⟨k, hk, rfl, rfl⟩ := hrel
    by_cases hlt : k < n
    · have hv := p10_le (show k ≤ 17 by omega)
      have HV : Hid (p10 (k + 1) = p10 k * 10) := Nat.pow_succ 10 k
      revert hv HV
      generalize p10 k = v
      intro hv HV
      go_wp2
      go_round
      case rel => exact ⟨k + 1, by omega, by go_num, by rw [HV.out]; go_num⟩
      case measure => simp [intOf]; omega
    · have e : k = n := by omega
      subst e
      go_wp2
      go_ret
      exact ⟨rfl, rfl⟩

def zzB (n : Nat) : Bool := decide (n ≤ 1048576)
set_option maxHeartbeats 1000000 in
set_option maxRecDepth 10000 in
theorem zz5 (a : Option Addr) (n cap : Nat) (w : World) :
    Calls Try.prog 5 #[.slice a n cap] w fun e w' => e = .returned (.bool (zzB n)) ∧ w = w' := by
  by_cases h0 : n ≤ 1048576
  · have H : Hid (zzB n = true) := by show zzB n = true; simp [zzB, h0]
    go_enter Try.func5, Try.ntmps5
    go_wp2
    go_ret
    exact ⟨by rw [H.out]; rfl, rfl⟩
  · have H : Hid (zzB n = false) := by show zzB n = false; simp [zzB, h0]
    go_enter Try.func5, Try.ntmps5
    go_wp2
    go_ret
    exact ⟨by rw [H.out]; rfl, rfl⟩
set_option maxHeartbeats 1000000 in
set_option maxRecDepth 10000 in
theorem zz8 (a : Option Addr) (n cap : Nat) (x : Int) (w : World) :
    Calls Try.prog 8 #[.slice a n cap, .int .i64 x] w fun e w' => e = .returned (.bool (zzB n)) ∧ w = w' := by
  by_cases h0 : n ≤ 1048576
  · have H : Hid (zzB n = true) := by show zzB n = true; simp [zzB, h0]
    go_enter Try.func8, Try.ntmps8
    go_wp2
    go_ret
    exact ⟨by rw [H.out]; rfl, rfl⟩
  · have H : Hid (zzB n = false) := by show zzB n = false; simp [zzB, h0]
    go_enter Try.func8, Try.ntmps8
    go_wp2
    go_ret
    exact ⟨by rw [H.out]; rfl, rfl⟩
end Go.Proofs.Qxb6627973a
