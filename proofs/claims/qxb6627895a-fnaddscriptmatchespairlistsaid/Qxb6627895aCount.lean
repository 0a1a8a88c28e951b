/-
  The contracts of pairIn (10), countDistinct (12), countPartners (13).
-/
import Derived.Test.Qxb6627895aParts
import Derived.Deep.QuietTactic
import Derived.BigQuiet
import Derived.WalkSmall
namespace Go.Proofs.Qxb6627895a
open Go.ChangeShapes Go.WideShapes Go.ChangeAt Go.RowKit Go.Maps

/-! ### the plain part -/
def firsts (z : List Int) : Nat → List Int
  | 0 => []
  | k + 1 => z.getD k 0 :: firsts z k
theorem script_fst (z0 z1 : List Int) (k : Nat) : (script z0 z1 k).map Prod.fst = firsts z0 k := by
  induction k with
  | zero => rfl
  | succ k ih => simp only [script, firsts, List.map_cons, ih]
theorem script_flip (z0 z1 : List Int) (k : Nat) : flip2 (script z0 z1 k) = script z1 z0 k := by
  induction k with
  | zero => rfl
  | succ k ih => simp only [script, flip_cons, ih]
theorem mem_firsts (z : List Int) (x : Int) (k : Nat) : x ∈ firsts z k ↔ ∃ m, m < k ∧ z.getD m 0 = x := by
  induction k with
  | zero => simp [firsts]
  | succ k ih =>
    simp only [firsts, List.mem_cons, ih]
    constructor
    · rintro (rfl | ⟨m, hm, e⟩)
      · exact ⟨k, by omega, rfl⟩
      · exact ⟨m, by omega, e⟩
    · rintro ⟨m, hm, e⟩
      by_cases h : m = k
      · subst h; exact .inl e.symm
      · exact .inr ⟨m, by omega, e⟩
theorem mem_script (z0 z1 : List Int) (p q : Int) (k : Nat) : (p, q) ∈ script z0 z1 k ↔ ∃ m, m < k ∧ z0.getD m 0 = p ∧ z1.getD m 0 = q := by
  induction k with
  | zero => simp [script]
  | succ k ih =>
    simp only [script, List.mem_cons, Prod.mk.injEq, ih]
    constructor
    · rintro (⟨rfl, rfl⟩ | ⟨m, hm, e⟩)
      · exact ⟨k, by omega, rfl, rfl⟩
      · exact ⟨m, by omega, e⟩
    · rintro ⟨m, hm, e1, e2⟩
      by_cases h : m = k
      · subst h; exact .inl ⟨e1.symm, e2.symm⟩
      · exact .inr ⟨m, by omega, e1, e2⟩
theorem firsts_length (z : List Int) (k : Nat) : (firsts z k).length = k := by
  induction k with
  | zero => rfl
  | succ k ih => simp [firsts, ih]
theorem dn_firsts_le (z : List Int) (k : Nat) : dn (firsts z k) ≤ k := by have := dn_le (firsts z k); rw [firsts_length] at this; exact this
theorem firsts_step_old (z : List Int) (k : Nat) (h : z.getD k 0 ∈ firsts z k) : dn (firsts z (k + 1)) = dn (firsts z k) := by rw [firsts, dn, if_pos h]
theorem firsts_step_new (z : List Int) (k : Nat) (h : z.getD k 0 ∉ firsts z k) : dn (firsts z (k + 1)) = dn (firsts z k) + 1 := by rw [firsts, dn, if_neg h]

/-! ### what came in, in a later world -/
theorem IsRow.below {k : IntKind} {w w' : World} {a : Option Addr} {len cap : Nat} {zs : List Int} (h : IsRow k w a len cap zs) (t : Below w.heap.size w w') : IsRow k w' a len cap zs := by
  rcases h with h | ⟨x, e, hl, hm, hz, hc, hw⟩
  · exact .inl h
  · refine .inr ⟨x, e, hl, hm, hz, fun i hi => ?_, hw⟩
    rw [t.cell (World.block_lt_of_cell? w _ (hc i hi))]
    exact hc i hi

/-! ### pairIn -/
set_option maxHeartbeats 1000000 in
theorem pairIn_any {w : World} {a0 : Option Addr} {len0 cap0 : Nat} {z0 : List Int} {a1 : Option Addr} {len1 cap1 : Nat} {z1 : List Int} (n : Nat) (p q : Int) (w0 : IsRow .i64 w a0 len0 cap0 z0) (w1 : IsRow .i64 w a1 len1 cap1 z1) (hn0 : n ≤ len0) (hn1 : n ≤ len1) (hn : n ≤ 4096) :
    Calls Try.prog 10 #[.slice a0 len0 cap0, .slice a1 len1 cap1, .int .i64 n, .int .i64 p, .int .i64 q] w fun e w' => e = .returned (.bool (decide ((p, q) ∈ script z0 z1 n))) ∧ w = w' := by
  go_enter Try.func10, Try.ntmps10
  go_wp2
  go_loop [11] (fun i => ∃ k : Nat, k ≤ n ∧ i = .int .i64 k ∧ ∀ m, m < k → ¬ (z0.getD m 0 = p ∧ z1.getD m 0 = q)) (fun i => n - (intOf i).toNat)
  case atStart => exact ⟨0, Nat.zero_le _, rfl, fun m hm => by omega⟩
  case round =>
    obtain ⟨k, hk, rfl, hno⟩ := hrel
    by_cases hlt : k < n
    · obtain ⟨b0, o0, rfl, hb0, hc0⟩ := w0.at (j := k) (by omega)
      obtain ⟨b1, o1, rfl, hb1, hc1⟩ := w1.at (j := k) (by omega)
      have g0 := hc0 k (by omega)
      have g1 := hc1 k (by omega)
      have HN : Hid (¬ (z0.getD k 0 = p ∧ z1.getD k 0 = q) → ∀ m, m < k + 1 → ¬ (z0.getD m 0 = p ∧ z1.getD m 0 = q)) := fun h m hm => by
        by_cases e : m = k
        · subst e; exact h
        · exact hno m (by omega)
      have HY : Hid ((z0.getD k 0 = p ∧ z1.getD k 0 = q) → decide ((p, q) ∈ script z0 z1 n) = true) := fun h => by
        rw [decide_eq_true_eq, mem_script]; exact ⟨k, hlt, h⟩
      clear hno hc0 hc1 w0 w1
      revert g0 g1 HN HY
      generalize z0.getD k 0 = x
      generalize z1.getD k 0 = y
      intro g0 g1 HN HY
      by_cases hx : x = p
      · have hxb : (x == p) = true := by simpa using hx
        by_cases hy : y = q
        · have hyb : (y == q) = true := by simpa using hy
          have H : Hid (decide ((p, q) ∈ script z0 z1 n) = true) := HY.out ⟨hx, hy⟩
          clear hx hy HN HY
          go_wp2
          go_ret
          exact ⟨by rw [H.out]; rfl, rfl⟩
        · have hyb : (y == q) = false := by simpa using hy
          have H : Hid (∀ m, m < k + 1 → ¬ (z0.getD m 0 = p ∧ z1.getD m 0 = q)) := HN.out (fun h => hy h.2)
          clear hx hy HN HY
          go_wp2
          go_round
          case rel => exact ⟨k + 1, by omega, by go_num, H.out⟩
          case measure => simp [intOf]; omega
      · have hxb : (x == p) = false := by simpa using hx
        have H : Hid (∀ m, m < k + 1 → ¬ (z0.getD m 0 = p ∧ z1.getD m 0 = q)) := HN.out (fun h => hx h.1)
        clear hx HN HY
        go_wp2
        go_round
        case rel => exact ⟨k + 1, by omega, by go_num, H.out⟩
        case measure => simp [intOf]; omega
    · have H : Hid (decide ((p, q) ∈ script z0 z1 n) = false) := by
        show decide ((p, q) ∈ script z0 z1 n) = false
        rw [decide_eq_false_iff_not, mem_script]
        rintro ⟨m, hm, h⟩
        exact hno m (by omega) h
      clear hno w0 w1
      go_wp2
      go_ret
      exact ⟨by rw [H.out]; rfl, rfl⟩
/-! ### countDistinct -/
set_option maxHeartbeats 2000000 in
theorem countDistinct_any {w : World} {a0 : Option Addr} {len0 cap0 : Nat} {z0 : List Int} (n : Nat) (w0 : IsRow .i64 w a0 len0 cap0 z0) (hn0 : n ≤ len0) (hn : n ≤ 4096) :
    Calls Try.prog 12 #[.slice a0 len0 cap0, .int .i64 n] w fun e w' => e = .returned (.int .i64 (dn (firsts z0 n))) ∧ Below w.heap.size w w' := by
  go_enter Try.func12, Try.ntmps12
  go_wp2
  go_loopw [5, 6] (fun c i wr => ∃ k : Nat, k ≤ n ∧ i = .int .i64 k ∧ c = .int .i64 (dn (firsts z0 k)) ∧ Below w.heap.size w wr) (fun _ i _ => n - (intOf i).toNat)
  case atStart => exact ⟨0, Nat.zero_le _, rfl, rfl, Below.refl _ _⟩
  case round =>
    obtain ⟨k, hk, rfl, rfl, hbel⟩ := hrel
    have hle := dn_firsts_le z0 k
    by_cases hlt : k < n
    · obtain ⟨b0, o0, rfl, hb0, hc0⟩ := w0.at (j := k) (by omega)
      have HO : Hid (z0.getD k 0 ∈ firsts z0 k → dn (firsts z0 (k + 1)) = dn (firsts z0 k)) := firsts_step_old z0 k
      have HW : Hid (z0.getD k 0 ∉ firsts z0 k → dn (firsts z0 (k + 1)) = dn (firsts z0 k) + 1) := firsts_step_new z0 k
      have hmem : ∀ m, m < k → z0.getD m 0 = z0.getD k 0 → z0.getD k 0 ∈ firsts z0 k := fun m hm e => (mem_firsts z0 _ k).2 ⟨m, hm, e⟩
      have hmem' : (∀ m, m < k → ¬ z0.getD m 0 = z0.getD k 0) → z0.getD k 0 ∉ firsts z0 k := fun h h' => by
        obtain ⟨m, hm, e⟩ := (mem_firsts z0 _ k).1 h'
        exact h m hm e
      have gk := hc0 k (by omega)
      have HM : Hid (∀ m, m < k → z0.getD m 0 = z0.getD k 0 → dn (firsts z0 (k + 1)) = dn (firsts z0 k)) := fun m hm e => HO.out (hmem m hm e)
      have HM' : Hid ((∀ m, m < k → ¬ z0.getD m 0 = z0.getD k 0) → dn (firsts z0 (k + 1)) = dn (firsts z0 k) + 1) := fun h => HW.out (hmem' h)
      clear HO HW hmem hmem' w0
      revert gk HM HM'
      generalize z0.getD k 0 = x
      intro gk HM HM'
      go_wp2
      go_loopw [7, 8] (fun s j wr => ∃ m : Nat, m ≤ k ∧ j = .int .i64 m ∧ s = .bool false ∧ (∀ i, i < m → ¬ z0.getD i 0 = x) ∧ Below w.heap.size w wr) (fun _ j _ => k - (intOf j).toNat)
      case atStart => exact ⟨0, Nat.zero_le _, rfl, rfl, fun i hi => by omega, hbel⟩
      case round =>
        clear hbel
        obtain ⟨m, hm, rfl, rfl, hno, hbel2⟩ := hrel
        by_cases hlt2 : m < k
        · have gm := (hbel2.cell (p := ⟨b0, o0 + m, none⟩) hb0).trans (hc0 m (by omega))
          have gk2 := (hbel2.cell (p := ⟨b0, o0 + k, none⟩) hb0).trans gk
          have HN : Hid (¬ z0.getD m 0 = x → ∀ i, i < m + 1 → ¬ z0.getD i 0 = x) := fun h i hi => by
            by_cases e : i = m
            · subst e; exact h
            · exact hno i (by omega)
          have HY : Hid (z0.getD m 0 = x → dn (firsts z0 (k + 1)) = dn (firsts z0 k)) := HM.out m hlt2
          clear hno hc0 gk HM HM'
          revert gm HN HY
          generalize z0.getD m 0 = y
          intro gm HN HY
          by_cases hy : y = x
          · have hyb : (y == x) = true := by simpa using hy
            have H : Hid (dn (firsts z0 (k + 1)) = dn (firsts z0 k)) := HY.out hy
            clear hy HN HY
            go_wp2_with fail
            go_quiet (fail)
            go_wp2
            go_roundw
            case rel => exact ⟨k + 1, by omega, by go_num, by rw [H.out], below_drewN hbel2 _⟩
            case measure => simp [intOf]; omega
          · have hyb : (y == x) = false := by simpa using hy
            have H : Hid (∀ i, i < m + 1 → ¬ z0.getD i 0 = x) := HN.out hy
            clear hy HN HY
            go_wp2_with fail
            go_quiet (fail)
            go_wp2
            go_roundw
            case rel => exact ⟨m + 1, by omega, by go_num, rfl, H.out, below_drewN hbel2 _⟩
            case measure => simp [intOf]; omega
        · have e : m = k := by omega
          subst e
          have H : Hid (dn (firsts z0 (m + 1)) = dn (firsts z0 m) + 1) := HM'.out hno
          clear hno hc0 gk HM HM'
          go_wp2
          go_roundw
          case rel => exact ⟨m + 1, by omega, by go_num, by rw [H.out]; go_num, hbel2⟩
          case measure => simp [intOf]; omega
    · have e : k = n := by omega
      subst e
      clear w0
      go_wp2
      go_ret
      exact ⟨rfl, hbel⟩

/-! ### countPartners -/
theorem partners_other (z0 z1 : List Int) (p : Int) (k : Nat) (h : ¬ z0.getD k 0 = p) : dn (parts (script z0 z1 (k + 1)) p) = dn (parts (script z0 z1 k) p) := by
  rw [script, parts_other _ _ (fun e => h e.symm)]
theorem partners_old (z0 z1 : List Int) (p : Int) (k : Nat) (h : z0.getD k 0 = p) (m : Nat) (hm : m < k) (e0 : z0.getD m 0 = p) (e1 : z1.getD m 0 = z1.getD k 0) :
    dn (parts (script z0 z1 (k + 1)) p) = dn (parts (script z0 z1 k) p) := by
  rw [script, h, dn_parts_cons, if_pos ((mem_script z0 z1 p _ k).2 ⟨m, hm, e0, e1⟩)]
  rfl
theorem partners_new (z0 z1 : List Int) (p : Int) (k : Nat) (h : z0.getD k 0 = p) (hno : ∀ m, m < k → ¬ (z0.getD m 0 = p ∧ z1.getD m 0 = z1.getD k 0)) :
    dn (parts (script z0 z1 (k + 1)) p) = dn (parts (script z0 z1 k) p) + 1 := by
  rw [script, h, dn_parts_cons, if_neg (fun h' => by obtain ⟨m, hm, e⟩ := (mem_script z0 z1 p _ k).1 h'; exact hno m hm e)]
theorem dn_partners_le (z0 z1 : List Int) (p : Int) (k : Nat) : dn (parts (script z0 z1 k) p) ≤ k := by have := dn_parts_le (script z0 z1 k) p; rw [script_length] at this; exact this

set_option maxHeartbeats 2000000 in
theorem countPartners_any {w : World} {a0 : Option Addr} {len0 cap0 : Nat} {z0 : List Int} {a1 : Option Addr} {len1 cap1 : Nat} {z1 : List Int} (n : Nat) (p : Int) (w0 : IsRow .i64 w a0 len0 cap0 z0) (w1 : IsRow .i64 w a1 len1 cap1 z1) (hn0 : n ≤ len0) (hn1 : n ≤ len1) (hn : n ≤ 4096) :
    Calls Try.prog 13 #[.slice a0 len0 cap0, .slice a1 len1 cap1, .int .i64 n, .int .i64 p] w fun e w' => e = .returned (.int .i64 (dn (parts (script z0 z1 n) p))) ∧ Below w.heap.size w w' := by
  go_enter Try.func13, Try.ntmps13
  go_wp2
  go_loopw [9, 10] (fun c i wr => ∃ k : Nat, k ≤ n ∧ i = .int .i64 k ∧ c = .int .i64 (dn (parts (script z0 z1 k) p)) ∧ Below w.heap.size w wr) (fun _ i _ => n - (intOf i).toNat)
  case atStart => exact ⟨0, Nat.zero_le _, rfl, rfl, Below.refl _ _⟩
  case round =>
    obtain ⟨k, hk, rfl, rfl, hbel⟩ := hrel
    have hle := dn_partners_le z0 z1 p k
    by_cases hlt : k < n
    · obtain ⟨b0, o0, rfl, hb0, hc0⟩ := w0.at (j := k) (by omega)
      obtain ⟨b1, o1, rfl, hb1, hc1⟩ := w1.at (j := k) (by omega)
      have gk := (hbel.cell (p := ⟨b0, o0 + k, none⟩) hb0).trans (hc0 k (by omega))
      have gk1 := hc1 k (by omega)
      have HX : Hid (¬ z0.getD k 0 = p → dn (parts (script z0 z1 (k + 1)) p) = dn (parts (script z0 z1 k) p)) := partners_other z0 z1 p k
      have HM : Hid (z0.getD k 0 = p → ∀ m, m < k → z0.getD m 0 = p → z1.getD m 0 = z1.getD k 0 → dn (parts (script z0 z1 (k + 1)) p) = dn (parts (script z0 z1 k) p)) := fun h m hm e0 e1 => partners_old z0 z1 p k h m hm e0 e1
      have HM' : Hid (z0.getD k 0 = p → (∀ m, m < k → ¬ (z0.getD m 0 = p ∧ z1.getD m 0 = z1.getD k 0)) → dn (parts (script z0 z1 (k + 1)) p) = dn (parts (script z0 z1 k) p) + 1) := fun h hno => partners_new z0 z1 p k h hno
      clear w0 w1
      revert gk gk1 HX HM HM'
      generalize z0.getD k 0 = xk
      generalize z1.getD k 0 = y
      intro gk gk1 HX HM HM'
      by_cases hx : xk = p
      · subst hx
        have HP : Hid (∀ m, m < k → z0.getD m 0 = xk → z1.getD m 0 = y → dn (parts (script z0 z1 (k + 1)) xk) = dn (parts (script z0 z1 k) xk)) := HM.out rfl
        have HP' : Hid ((∀ m, m < k → ¬ (z0.getD m 0 = xk ∧ z1.getD m 0 = y)) → dn (parts (script z0 z1 (k + 1)) xk) = dn (parts (script z0 z1 k) xk) + 1) := HM'.out rfl
        clear HX HM HM'
        have hxb : (xk != xk) = false := by simp
        go_wp2
        clear gk
        go_loopw [11, 12] (fun s j wr => ∃ m : Nat, m ≤ k ∧ j = .int .i64 m ∧ s = .bool false ∧ (∀ i, i < m → ¬ (z0.getD i 0 = xk ∧ z1.getD i 0 = y)) ∧ Below w.heap.size w wr) (fun _ j _ => k - (intOf j).toNat)
        case atStart => exact ⟨0, Nat.zero_le _, rfl, rfl, fun i hi => by omega, hbel⟩
        case round =>
          clear hbel
          obtain ⟨m, hm, rfl, rfl, hno, hbel2⟩ := hrel
          by_cases hlt2 : m < k
          · have gm := (hbel2.cell (p := ⟨b0, o0 + m, none⟩) hb0).trans (hc0 m (by omega))
            have gm1 := (hbel2.cell (p := ⟨b1, o1 + m, none⟩) hb1).trans (hc1 m (by omega))
            have gk2 := (hbel2.cell (p := ⟨b1, o1 + k, none⟩) hb1).trans gk1
            have HN : Hid (¬ (z0.getD m 0 = xk ∧ z1.getD m 0 = y) → ∀ i, i < m + 1 → ¬ (z0.getD i 0 = xk ∧ z1.getD i 0 = y)) := fun h i hi => by
              by_cases e : i = m
              · subst e; exact h
              · exact hno i (by omega)
            have HY : Hid (z0.getD m 0 = xk → z1.getD m 0 = y → dn (parts (script z0 z1 (k + 1)) xk) = dn (parts (script z0 z1 k) xk)) := HP.out m hlt2
            clear hno hc0 hc1 gk1 HP HP'
            revert gm gm1 HN HY
            generalize z0.getD m 0 = xm
            generalize z1.getD m 0 = ym
            intro gm gm1 HN HY
            by_cases hx : xm = xk
            · have hxb : (xm == xk) = true := by simpa using hx
              by_cases hy : ym = y
              · have hyb : (ym == y) = true := by simpa using hy
                have H : Hid (dn (parts (script z0 z1 (k + 1)) xk) = dn (parts (script z0 z1 k) xk)) := HY.out hx hy
                clear hx hy HN HY
                go_wp2_with fail
                go_quiet (fail)
                go_wp2
                go_roundw
                case rel => exact ⟨k + 1, by omega, by go_num, by rw [H.out], below_drewN hbel2 _⟩
                case measure => simp [intOf]; omega
              · have hyb : (ym == y) = false := by simpa using hy
                have H : Hid (∀ i, i < m + 1 → ¬ (z0.getD i 0 = xk ∧ z1.getD i 0 = y)) := HN.out (fun h => hy h.2)
                clear hx hy HN HY
                go_wp2_with fail
                go_quiet (fail)
                go_wp2
                go_roundw
                case rel => exact ⟨m + 1, by omega, by go_num, rfl, H.out, below_drewN hbel2 _⟩
                case measure => simp [intOf]; omega
            · have hxb : (xm == xk) = false := by simpa using hx
              have H : Hid (∀ i, i < m + 1 → ¬ (z0.getD i 0 = xk ∧ z1.getD i 0 = y)) := HN.out (fun h => hx h.1)
              clear hx HN HY
              go_wp2_with fail
              go_quiet (fail)
              go_wp2
              go_roundw
              case rel => exact ⟨m + 1, by omega, by go_num, rfl, H.out, below_drewN hbel2 _⟩
              case measure => simp [intOf]; omega
          · have e : m = k := by omega
            subst e
            have H : Hid (dn (parts (script z0 z1 (m + 1)) xk) = dn (parts (script z0 z1 m) xk) + 1) := HP'.out hno
            clear hno hc0 hc1 gk1 HP HP'
            go_wp2
            go_roundw
            case rel => exact ⟨m + 1, by omega, by go_num, by rw [H.out]; go_num, hbel2⟩
            case measure => simp [intOf]; omega
      · have hxb : (xk != p) = true := by simpa using hx
        have H : Hid (dn (parts (script z0 z1 (k + 1)) p) = dn (parts (script z0 z1 k) p)) := HX.out hx
        clear HX HM HM' hx
        go_wp2
        go_roundw
        case rel => exact ⟨k + 1, by omega, by go_num, by rw [H.out], hbel⟩
        case measure => simp [intOf]; omega
    · have e : k = n := by omega
      subst e
      clear w0 w1
      go_wp2
      go_ret
      exact ⟨rfl, hbel⟩

end Go.Proofs.Qxb6627895a
