/-
  What came in (a slice of integers), the script of pairs, and the small callees: the two length bounds (5, 14), minLen (6), ZZcontained (8), ZZcontainers (9).
-/
import Derived.Test.Qxb6627895aLinks
import Derived.OpenShut
namespace Go.Proofs.Qxb6627895a
open Go.ChangeShapes Go.WideShapes Go.ChangeAt Go.RowKit Go.Maps

/-- WHAT THE WALK IS TOLD OF A SLICE OF INTEGERS THAT CAME IN: it is nil; or it leads to a row of 'cap' cells, the numbers 'zs' (the first 'len' are its elements, the rest its spare room), each fitting its kind. -/
def IsRow (k : IntKind) (w : World) (a : Option Addr) (len cap : Nat) (zs : List Int) : Prop :=
  (a = none ∧ len = 0 ∧ cap = 0 ∧ zs = []) ∨
  ∃ x, a = some x ∧ len ≤ cap ∧ cap ≤ maxLen ∧ zs.length = cap ∧ (∀ i, i < zs.length → w.cell? (x.add i) = some (.int k (zs.getD i 0))) ∧ ∀ n ∈ zs, (Lit.int k n).wf = true

theorem wf_getD {k : IntKind} {zs : List Int} (h : ∀ n ∈ zs, (Lit.int k n).wf = true) (j : Nat) : (Lit.int k (zs.getD j 0)).wf = true := by
  rw [List.getD_eq_getElem?_getD]
  cases e : zs[j]? with
  | none => cases k <;> rfl
  | some x => exact h x (List.mem_of_getElem? e)

theorem IsRow.wf {k : IntKind} {w : World} {a : Option Addr} {len cap : Nat} {zs : List Int} (h : IsRow k w a len cap zs) (j : Nat) : (Lit.int k (zs.getD j 0)).wf = true := by
  rcases h with ⟨_, _, _, rfl⟩ | ⟨x, _, _, _, _, _, hw⟩
  · cases k <;> rfl
  · exact wf_getD hw j

/-- where there is an element: the address, and the cells -/
theorem IsRow.at {k : IntKind} {w : World} {a : Option Addr} {len cap : Nat} {zs : List Int} (h : IsRow k w a len cap zs) {j : Nat} (hj : j < len) :
    ∃ b off, a = some ⟨b, off, none⟩ ∧ b < w.heap.size ∧ ∀ i, i < len → w.cell? ⟨b, off + i, none⟩ = some (.int k (zs.getD i 0)) := by
  rcases h with ⟨_, rfl, _, _⟩ | ⟨x, rfl, hl, _, hz, hc, _⟩
  · omega
  · obtain ⟨b, off, rfl, hc'⟩ := ints_at hc (by omega)
    exact ⟨b, off, rfl, World.block_lt_of_cell? w ⟨b, off + 0, none⟩ (hc' 0 (by omega)), fun i hi => hc' i (by omega)⟩

/-- the first k pairs, newest first -/
def script (z0 z1 : List Int) : Nat → List (Int × Int)
  | 0 => []
  | k + 1 => (z0.getD k 0, z1.getD k 0) :: script z0 z1 k

def zzB (l0 l1 : Nat) : Bool := decide (l0 + l1 ≤ 1048576)

set_option maxHeartbeats 400000 in
theorem zz14 (a0 : Option Addr) (len0 cap0 : Nat) (a1 : Option Addr) (len1 cap1 : Nat) (x2 x3 x4 x5 : Int) (w : World) :
    Calls Try.prog 14 #[.slice a0 len0 cap0, .slice a1 len1 cap1, .int .i64 x2, .int .i64 x3, .int .i64 x4, .int .i64 x5] w fun e w' => e = .returned (.bool (zzB len0 len1)) ∧ w' = w := by
  by_cases h0 : len0 ≤ 1048576
  · by_cases h1 : len1 ≤ 1048576
    · by_cases h2 : len0 + len1 ≤ 1048576
      · have H : Hid (zzB len0 len1 = true) := by show zzB len0 len1 = true; simp [zzB, h2]
        go_enter Try.func14, Try.ntmps14
        go_wp2
        go_ret
        exact ⟨by rw [H.out]; rfl, rfl⟩
      · have H : Hid (zzB len0 len1 = false) := by show zzB len0 len1 = false; simp [zzB]; omega
        go_enter Try.func14, Try.ntmps14
        go_wp2
        go_ret
        exact ⟨by rw [H.out]; rfl, rfl⟩
    · have H : Hid (zzB len0 len1 = false) := by show zzB len0 len1 = false; simp [zzB]; omega
      go_enter Try.func14, Try.ntmps14
      go_wp2
      go_ret
      exact ⟨by rw [H.out]; rfl, rfl⟩
  · have H : Hid (zzB len0 len1 = false) := by show zzB len0 len1 = false; simp [zzB]; omega
    go_enter Try.func14, Try.ntmps14
    go_wp2
    go_ret
    exact ⟨by rw [H.out]; rfl, rfl⟩
set_option maxHeartbeats 400000 in
theorem zz5 (a0 : Option Addr) (len0 cap0 : Nat) (a1 : Option Addr) (len1 cap1 : Nat) (x2 x3 : Int) (w : World) :
    Calls Try.prog 5 #[.slice a0 len0 cap0, .slice a1 len1 cap1, .int .i64 x2, .int .i64 x3] w fun e w' => e = .returned (.bool (zzB len0 len1)) ∧ w' = w := by
  by_cases h0 : len0 ≤ 1048576
  · by_cases h1 : len1 ≤ 1048576
    · by_cases h2 : len0 + len1 ≤ 1048576
      · have H : Hid (zzB len0 len1 = true) := by show zzB len0 len1 = true; simp [zzB, h2]
        go_enter Try.func5, Try.ntmps5
        go_wp2
        go_ret
        exact ⟨by rw [H.out]; rfl, rfl⟩
      · have H : Hid (zzB len0 len1 = false) := by show zzB len0 len1 = false; simp [zzB]; omega
        go_enter Try.func5, Try.ntmps5
        go_wp2
        go_ret
        exact ⟨by rw [H.out]; rfl, rfl⟩
    · have H : Hid (zzB len0 len1 = false) := by show zzB len0 len1 = false; simp [zzB]; omega
      go_enter Try.func5, Try.ntmps5
      go_wp2
      go_ret
      exact ⟨by rw [H.out]; rfl, rfl⟩
  · have H : Hid (zzB len0 len1 = false) := by show zzB len0 len1 = false; simp [zzB]; omega
    go_enter Try.func5, Try.ntmps5
    go_wp2
    go_ret
    exact ⟨by rw [H.out]; rfl, rfl⟩

set_option maxHeartbeats 400000 in
theorem minLen_any (a0 : Option Addr) (len0 cap0 : Nat) (a1 : Option Addr) (len1 cap1 : Nat) (w : World) :
    Calls Try.prog 6 #[.slice a0 len0 cap0, .slice a1 len1 cap1] w fun e w' => e = .returned (.int .i64 ((min len0 len1 : Nat) : Int)) ∧ w' = w := by
  by_cases h : len1 < len0
  · have H : Hid (min len0 len1 = len1) := Nat.min_eq_right (Nat.le_of_lt h)
    go_enter Try.func6, Try.ntmps6
    go_wp2
    go_ret
    exact ⟨by rw [H.out]; rfl, rfl⟩
  · have H : Hid (min len0 len1 = len0) := Nat.min_eq_left (by omega)
    go_enter Try.func6, Try.ntmps6
    go_wp2
    go_ret
    exact ⟨by rw [H.out]; rfl, rfl⟩

set_option maxHeartbeats 400000 in
theorem zzcontained_any {w : World} {bl : Nat} {r : Option Nat} (c0 : w.cell? ⟨bl, 0, none⟩ = some (.map r)) :
    Calls Try.prog 8 #[.pointer (some ⟨bl, 0, none⟩)] w fun e w' => e = .returned (.map r) ∧ w = w' := by
  go_enter Try.func8, Try.ntmps8
  go_wp2
  go_ret
  exact ⟨rfl, rfl⟩
set_option maxHeartbeats 400000 in
theorem zzcontainers_any {w : World} {bl : Nat} {r : Option Nat} (c1 : w.cell? ⟨bl, 1, none⟩ = some (.map r)) :
    Calls Try.prog 9 #[.pointer (some ⟨bl, 0, none⟩)] w fun e w' => e = .returned (.map r) ∧ w = w' := by
  go_enter Try.func9, Try.ntmps9
  go_wp2
  go_ret
  exact ⟨rfl, rfl⟩

/-- the two fields, and what they read as -/
theorem Lk.fields {w : World} {B bl n : Nat} {L : List (Int × Int)} (h : Lk w B bl n L) :
    ∃ r1 r2 : Option Nat, w.cell? ⟨bl, 0, none⟩ = some (.map r1) ∧ w.cell? ⟨bl, 1, none⟩ = some (.map r2) ∧ TabV w (.map r1) n L ∧ TabV w (.map r2) n (flip2 L) ∧ bl < w.heap.size := by
  obtain ⟨_, ⟨rfl, c0, c1, _⟩ | ⟨b1, b2, f1, f2, hS⟩⟩ := h
  · exact ⟨none, none, c0, c1, .inl ⟨rfl, rfl⟩, .inl ⟨rfl, rfl⟩, World.block_lt_of_cell? w _ c0⟩
  · exact ⟨some b1, some b2, hS.c0, hS.c1, .inr ⟨b1, f1, rfl, hS.t1⟩, .inr ⟨b2, f2, rfl, hS.t2⟩, World.block_lt_of_cell? w _ hS.c0⟩

/-- 'len(m)' -/
theorem TabV.len {w : World} {r : Option Nat} {n : Nat} {L : List (Int × Int)} (h : TabV w (.map r) n L) (ty : TypeId) :
    (Builtin.len_ #[25] ty #[.map r]).run Try.prog w = .ok (.int .i64 (dn (L.map Prod.fst))) w := by
  rcases h with ⟨e, rfl⟩ | ⟨b, f, e, h⟩
  · cases e
    exact Maps.len_nil Try.underlying25 ty
  · cases e
    exact h.len ty
/-- 'm[p]', and 'len(m[p])' -/
theorem TabV.look {w : World} {r : Option Nat} {n : Nat} {L : List (Int × Int)} (h : TabV w (.map r) n L) {p : Int} (hwp : (Lit.int .i64 p).wf = true) :
    ∃ r' : Option Nat, (Instr.lookup 25 (.map r) (.int .i64 p) false).run Try.prog w = .ok (.map r') w ∧ ∀ ty, (Builtin.len_ #[34] ty #[.map r']).run Try.prog w = .ok (.int .i64 (dn (parts L p))) w := by
  rcases h with ⟨e, rfl⟩ | ⟨b, f, e, h⟩
  · cases e
    exact ⟨none, Maps.look_nil false law Try.underlying25 (zero34 w) (keyOf_int_mk Try.underlying2 hwp), fun ty => Maps.len_nil Try.underlying34 ty⟩
  · cases e
    by_cases hp : p ∈ L.map Prod.fst
    · exact ⟨some (f p), h.look_old hwp hp, fun ty => h.lenAt hp ty⟩
    · exact ⟨none, h.look_new hwp hp, fun ty => by rw [parts_nil L hp]; exact Maps.len_nil Try.underlying34 ty⟩
theorem Lk.below {w w' : World} {B bl n : Nat} {L : List (Int × Int)} (h : Lk w B bl n L) (t : Below w.heap.size w w') : Lk w' B bl n L := by
  obtain ⟨hb, ⟨rfl, c0, c1, f0, f1⟩ | ⟨b1, b2, g1, g2, hS⟩⟩ := h
  · have hl : bl < w.heap.size := World.block_lt_of_cell? w _ c0
    exact ⟨hb, .inl ⟨rfl, by rw [t.cell (p := ⟨bl, 0, none⟩) hl]; exact c0, by rw [t.cell (p := ⟨bl, 1, none⟩) hl]; exact c1, by rw [t.frozen (p := ⟨bl, 0, none⟩) hl]; exact f0, by rw [t.frozen (p := ⟨bl, 1, none⟩) hl]; exact f1⟩⟩
  · have hl : bl < w.heap.size := World.block_lt_of_cell? w _ hS.c0
    exact ⟨hb, .inr ⟨b1, b2, g1, g2, by rw [t.cell (p := ⟨bl, 0, none⟩) hl]; exact hS.c0, by rw [t.cell (p := ⟨bl, 1, none⟩) hl]; exact hS.c1, hS.t1.below t, hS.t2.below t, hS.u1, hS.u2⟩⟩

/-! ### what one more pair does to the plain numbers -/
theorem mem_flip (L : List (Int × Int)) (p q : Int) : (q, p) ∈ flip2 L ↔ (p, q) ∈ L := by
  unfold flip2
  constructor
  · intro h
    obtain ⟨x, hx, e⟩ := List.mem_map.1 h
    obtain ⟨x1, x2⟩ := x
    simp only [Prod.mk.injEq] at e
    obtain ⟨rfl, rfl⟩ := e
    exact hx
  · intro h
    exact List.mem_map.2 ⟨(p, q), h, rfl⟩
theorem parts_zero (L : List (Int × Int)) (p : Int) : dn (parts L p) = 0 ↔ p ∉ L.map Prod.fst := by
  constructor
  · intro h hm
    have := parts_pos L hm
    omega
  · intro h
    rw [parts_nil L h]
    rfl
theorem dn_parts_cons (L : List (Int × Int)) (a b : Int) : dn (parts ((a, b) :: L) a) = dn (parts L a) + if (a, b) ∈ L then 0 else 1 := by
  rw [parts_same, dn]
  by_cases h : (a, b) ∈ L
  · rw [if_pos ((mem_parts L a b).2 h), if_pos h]; rfl
  · rw [if_neg (fun h' => h ((mem_parts L a b).1 h')), if_neg h]
theorem dn_fst_cons (L : List (Int × Int)) (a b : Int) : dn (((a, b) :: L).map Prod.fst) = dn (L.map Prod.fst) + if dn (parts L a) = 0 then 1 else 0 := by
  simp only [List.map_cons]
  rw [dn]
  by_cases h : a ∈ L.map Prod.fst
  · rw [if_pos h, if_neg (fun h' => (parts_zero L a).1 h' h)]; rfl
  · rw [if_neg h, if_pos ((parts_zero L a).2 h)]
theorem had_pos (L : List (Int × Int)) (a b : Int) (h : (a, b) ∈ L) : 0 < dn (parts L a) := parts_pos L (List.mem_map.2 ⟨_, h, rfl⟩)
theorem script_length (z0 z1 : List Int) (k : Nat) : (script z0 z1 k).length = k := by
  induction k with
  | zero => rfl
  | succ k ih => simp [script, ih]
theorem flip_length (L : List (Int × Int)) : (flip2 L).length = L.length := by simp [flip2]
theorem dn_parts_le (L : List (Int × Int)) (p : Int) : dn (parts L p) ≤ L.length := Nat.le_trans (dn_le _) (parts_le L p)
theorem dn_fst_le (L : List (Int × Int)) : dn (L.map Prod.fst) ≤ L.length := by have := dn_le (L.map Prod.fst); simpa using this
theorem flip_cons (L : List (Int × Int)) (a b : Int) : flip2 ((a, b) :: L) = (b, a) :: flip2 L := rfl
theorem step_facts (L : List (Int × Int)) (a b p q : Int) :
    decide ((a, b) ∈ (a, b) :: L) = true ∧ decide ((b, a) ∈ flip2 ((a, b) :: L)) = true ∧
    (dn (parts ((a, b) :: L) a) = dn (parts L a) + if decide ((a, b) ∈ L) = true then 0 else 1) ∧
    (dn (parts (flip2 ((a, b) :: L)) b) = dn (parts (flip2 L) b) + if decide ((a, b) ∈ L) = true then 0 else 1) ∧
    (dn (((a, b) :: L).map Prod.fst) = dn (L.map Prod.fst) + if dn (parts L a) = 0 then 1 else 0) ∧
    (dn ((flip2 ((a, b) :: L)).map Prod.fst) = dn ((flip2 L).map Prod.fst) + if dn (parts (flip2 L) b) = 0 then 1 else 0) ∧
    (¬ p = a → dn (parts ((a, b) :: L) p) = dn (parts L p)) ∧
    (¬ q = b → dn (parts (flip2 ((a, b) :: L)) q) = dn (parts (flip2 L) q)) ∧
    decide ((p, q) ∈ (a, b) :: L) = (decide ((p, q) ∈ L) || (p == a && q == b)) ∧
    decide ((q, p) ∈ flip2 ((a, b) :: L)) = (decide ((p, q) ∈ L) || (p == a && q == b)) ∧
    (decide ((a, b) ∈ L) = true → 0 < dn (parts L a) ∧ 0 < dn (parts (flip2 L) b)) := by
  have m : decide ((p, q) ∈ (a, b) :: L) = (decide ((p, q) ∈ L) || (p == a && q == b)) := by
    rw [Bool.eq_iff_iff]
    simp only [decide_eq_true_eq, List.mem_cons, Prod.mk.injEq, Bool.or_eq_true, Bool.and_eq_true, beq_iff_eq]
    exact Or.comm
  have c : ∀ x y : Int, (if decide ((a, b) ∈ L) = true then (0 : Nat) else 1) = if (a, b) ∈ L then 0 else 1 := fun _ _ => by simp
  have d : (if (a, b) ∈ L then (0 : Nat) else 1) = if (b, a) ∈ flip2 L then 0 else 1 := by
    by_cases h : (a, b) ∈ L
    · rw [if_pos h, if_pos ((mem_flip L a b).2 h)]
    · rw [if_neg h, if_neg (fun h' => h ((mem_flip L a b).1 h'))]
  refine ⟨by simp, by simp [flip2], ?_, ?_, dn_fst_cons L a b, ?_, fun h => by rw [parts_other L b h], fun h => by rw [flip_cons, parts_other _ a h], m, ?_, fun h => ?_⟩
  · rw [c 0 0, dn_parts_cons]
  · rw [c 0 0, d, flip_cons, dn_parts_cons]
  · rw [flip_cons, dn_fst_cons]
  · rw [← m]; exact decide_eq_decide.2 (mem_flip _ p q)
  · have h' : (a, b) ∈ L := by simpa using h
    exact ⟨had_pos L a b h', had_pos (flip2 L) b a ((mem_flip L a b).2 h')⟩
end Go.Proofs.Qxb6627895a
