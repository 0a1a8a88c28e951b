/-
  A table of links: a map from role to a set of roles, both made by the call. The script of pairs that filled it, newest first, is its plain reading.
-/
import Derived.Test.Qxb6627895aRows
import Derived.WalkKit
import Derived.ProofKit
import Derived.Below
import Derived.Maps.OwnSet
namespace Go.Proofs.Qxb6627895a
open Go.RowKit Go.Maps

/-! ### the plain part -/
/-- how many different numbers -/
def dn : List Int → Nat
  | [] => 0
  | x :: r => if x ∈ r then dn r else dn r + 1
/-- the partners of p, newest first, repeats and all -/
def parts (L : List (Int × Int)) (p : Int) : List Int := (L.filter (fun x => x.1 == p)).map Prod.snd
def flip2 (L : List (Int × Int)) : List (Int × Int) := L.map (fun x => (x.2, x.1))

theorem dn_le (l : List Int) : dn l ≤ l.length := by
  induction l with
  | nil => exact Nat.le_refl _
  | cons x r ih => unfold dn; split <;> simp <;> omega
theorem parts_le (L : List (Int × Int)) (p : Int) : (parts L p).length ≤ L.length := by
  unfold parts; rw [List.length_map]; exact List.length_filter_le _ _
theorem mem_parts (L : List (Int × Int)) (p q : Int) : q ∈ parts L p ↔ (p, q) ∈ L := by
  unfold parts
  constructor
  · intro h
    obtain ⟨x, hx, rfl⟩ := List.mem_map.1 h
    obtain ⟨h1, h2⟩ := List.mem_filter.1 hx
    have : x.1 = p := by simpa using h2
    subst this
    exact h1
  · intro h
    exact List.mem_map.2 ⟨(p, q), List.mem_filter.2 ⟨h, by simp⟩, rfl⟩
theorem parts_same (L : List (Int × Int)) (p q : Int) : parts ((p, q) :: L) p = q :: parts L p := by simp [parts]
theorem parts_other (L : List (Int × Int)) {p p' : Int} (q : Int) (h : ¬ p' = p) : parts ((p, q) :: L) p' = parts L p' := by
  have : (p == p') = false := by simpa using fun e : p = p' => h e.symm
  simp [parts, this]
theorem parts_nil (L : List (Int × Int)) {p : Int} (h : p ∉ L.map Prod.fst) : parts L p = [] := by
  cases e : parts L p with
  | nil => rfl
  | cons q r =>
    have : q ∈ parts L p := by rw [e]; exact List.mem_cons_self ..
    exact absurd (List.mem_map.2 ⟨(p, q), (mem_parts L p q).1 this, rfl⟩) h
theorem parts_pos (L : List (Int × Int)) {p : Int} (h : p ∈ L.map Prod.fst) : 0 < dn (parts L p) := by
  obtain ⟨x, hx, rfl⟩ := List.mem_map.1 h
  have hm : x.2 ∈ parts L x.1 := (mem_parts L x.1 x.2).2 hx
  revert hm
  generalize parts L x.1 = l
  intro hm
  induction l with
  | nil => cases hm
  | cons y r ih =>
    unfold dn
    split
    · rename_i hy
      rcases List.mem_cons.1 hm with e | e
      · rw [e] at ih; exact ih hy
      · exact ih e
    · omega

/-! ### the worlds: only what S names has turned, and new blocks -/
structure Turned (S : Nat → Prop) (w w' : World) : Prop where
  os : w'.os = w.os
  tape : w'.tape = w.tape
  output : w'.output = w.output
  size : w.heap.size ≤ w'.heap.size
  block : ∀ k, k < w.heap.size → ¬ S k → w'.heap[k]? = w.heap[k]?

theorem Turned.of_grown {w w' : World} {c : Nat} {S : Nat → Prop} (h : w.grownBy w' (some c)) (hc : S c) : Turned S w w' :=
  ⟨h.os, h.tape, h.output, h.size, fun k hk hS => h.block k hk (fun e => by cases e; exact hS hc)⟩
theorem Turned.of_below {w w' : World} {S : Nat → Prop} (h : Below w.heap.size w w') : Turned S w w' :=
  ⟨h.os, h.tape, h.output, h.size, fun k hk _ => h.block k hk⟩
theorem Turned.trans {S S' : Nat → Prop} {a b c : World} (h : Turned S a b) (k : Turned S' b c) (hs : ∀ i, S' i → S i ∨ a.heap.size ≤ i) : Turned S a c :=
  ⟨k.os.trans h.os, k.tape.trans h.tape, k.output.trans h.output, Nat.le_trans h.size k.size, fun i hi hS =>
    (k.block i (Nat.lt_of_lt_of_le hi h.size) (fun h' => by rcases hs i h' with h' | h'; exact hS h'; omega)).trans (h.block i hi hS)⟩
theorem Turned.below {S : Nat → Prop} {w w' : World} {B : Nat} (h : Turned S w w') (hB : B ≤ w.heap.size) (hS : ∀ i, S i → B ≤ i) : Below B w w' :=
  ⟨h.os, h.tape, h.output, h.size, fun k hk => h.block k (by omega) (fun h' => by have := hS k h'; omega)⟩

/-! ### the tables -/
/-- the value of a table reads as the number of the block that it leads to -/
def blkElem : Value → Option (DataW Unit × List MemPlace)
  | .map none => some (.nil, [])
  | .map (some c) => some (.lit (.int .i64 c), [])
  | _ => none
theorem blkElem_nil {v : Value} {ps : List MemPlace} (h : blkElem v = some (.nil, ps)) : v = .map none := by
  unfold blkElem at h
  split at h
  · rfl
  · simp at h
  · cases h
theorem blkElem_some {v : Value} {c : Nat} {ps : List MemPlace} (h : blkElem v = some (.lit (.int .i64 c), ps)) : v = .map (some c) := by
  unfold blkElem at h
  split at h
  · simp at h
  · rename_i c'
    simp at h
    have e : c' = c := by have := h.1; omega
    rw [e]
  · cases h

def key (p : Int) : Lit := .int .i64 p
theorem key_lit (p : Int) : WideAt.IsKeyLit (key p) := by simp [key, WideAt.IsKeyLit]
theorem key_ne {p q : Int} (h : ¬ p = q) : key p ≠ key q := by simpa [key] using h

theorem law : Keyed Try.prog 2 := int_keyed Try.underlying2
theorem zero34 (w : World) : (zeroValue 34).run Try.prog w = .ok (.map none) w := by kernel_rfl
theorem zero38 (w : World) : (zeroValue 38).run Try.prog w = .ok (.agg #[]) w := by kernel_rfl

/-- BLOCK b IS THE TABLE OF THE SCRIPT L; the set of role p lies in block f p. -/
structure Tab (w : World) (b n : Nat) (L : List (Int × Int)) (f : Int → Nat) : Prop where
  outer : ∃ D : DataW Unit, w.ownsMap Try.prog 2 blkElem b n D ∧ Maps.size D = dn (L.map Prod.fst) ∧
    (∀ p, p ∈ L.map Prod.fst → D.atKey (key p) .nil = .lit (.int .i64 (f p)) ∧ Maps.has D (key p) = true) ∧
    (∀ p, p ∉ L.map Prod.fst → Maps.has D (key p) = false)
  inner : ∀ p, p ∈ L.map Prod.fst → f p ≠ b ∧ ∃ E : DataW Unit, w.ownsMap Try.prog 2 unitElem (f p) n E ∧ Maps.size E = dn (parts L p) ∧ ∀ q, Maps.has E (key q) = decide ((p, q) ∈ L)
  apart : ∀ p p', p ∈ L.map Prod.fst → p' ∈ L.map Prod.fst → f p = f p' → p = p'

/-- the blocks of a table -/
def Foot (b : Nat) (L : List (Int × Int)) (f : Int → Nat) (i : Nat) : Prop := i = b ∨ ∃ p, p ∈ L.map Prod.fst ∧ f p = i

theorem ownsMap_of {w w' : World} {R : Value → Option (DataW Unit × List MemPlace)} {b n : Nat} {D : DataW Unit} (h : w.ownsMap Try.prog 2 R b n D) (e : w'.heap[b]? = w.heap[b]?) : w'.ownsMap Try.prog 2 R b n D := by
  obtain ⟨es, clock, hb, r⟩ := h
  exact ⟨es, clock, e.trans hb, r⟩

variable {w w' : World} {b n : Nat} {L : List (Int × Int)} {f : Int → Nat}

theorem Tab.keep (h : Tab w b n L f) (hk : ∀ i, Foot b L f i → w'.heap[i]? = w.heap[i]?) : Tab w' b n L f := by
  obtain ⟨⟨D, hD, r⟩, hi, ha⟩ := h
  refine ⟨⟨D, ownsMap_of hD (hk b (.inl rfl)), r⟩, fun p hp => ?_, ha⟩
  obtain ⟨hne, E, hE, s⟩ := hi p hp
  exact ⟨hne, E, ownsMap_of hE (hk _ (.inr ⟨p, hp, rfl⟩)), s⟩
theorem Tab.lt (h : Tab w b n L f) {i : Nat} (hi : Foot b L f i) : i < w.heap.size := by
  rcases hi with rfl | ⟨p, hp, rfl⟩
  · obtain ⟨D, hD, _⟩ := h.outer; exact hD.lt
  · obtain ⟨_, E, hE, _⟩ := h.inner p hp; exact hE.lt
theorem Tab.turned {S : Nat → Prop} (h : Tab w b n L f) (t : Turned S w w') (hS : ∀ i, Foot b L f i → ¬ S i) : Tab w' b n L f :=
  h.keep fun i hi => t.block i (h.lt hi) (hS i hi)
theorem Tab.below (h : Tab w b n L f) (t : Below w.heap.size w w') : Tab w' b n L f :=
  h.keep fun _ hi => t.block _ (h.lt hi)

theorem tab_made (w : World) : Tab (w.alloc (.map #[] 0)) w.heap.size 0 [] (fun _ => 0) :=
  ⟨⟨.map [], World.ownsMap_made w Try.prog 2 blkElem, rfl, fun p hp => (by cases hp), fun p _ => rfl⟩, fun p hp => (by cases hp), fun p _ hp => (by cases hp)⟩

theorem Tab.mono (h : Tab w b n L f) {m : Nat} (hm : n ≤ m) : Tab w b m L f := by
  obtain ⟨⟨D, hD, r⟩, hi, ha⟩ := h
  refine ⟨⟨D, hD.mono hm, r⟩, fun p hp => ?_, ha⟩
  obtain ⟨hne, E, hE, s⟩ := hi p hp
  exact ⟨hne, E, hE.mono hm, s⟩

/-! ### reading -/
theorem Tab.look_new (h : Tab w b n L f) {p : Int} (hw : (Lit.int .i64 p).wf = true) (hp : p ∉ L.map Prod.fst) :
    (Instr.lookup 25 (.map (some b)) (.int .i64 p) false).run Try.prog w = .ok (.map none) w := by
  obtain ⟨D, hD, _, _, hno⟩ := h.outer
  obtain ⟨v, ps, hrun, hv⟩ := hD.lookup (t := 25) (e := 34) law Try.underlying25 (zero34 w) (zd := .nil) (zp := []) rfl (keyOf_int_mk Try.underlying2 hw)
  have e := Maps.atKey_of_not_has (hno p hp) (.nil : DataW Unit)
  unfold key at e
  rw [e] at hv
  rw [blkElem_nil hv] at hrun
  exact hrun
theorem Tab.look_old (h : Tab w b n L f) {p : Int} (hw : (Lit.int .i64 p).wf = true) (hp : p ∈ L.map Prod.fst) :
    (Instr.lookup 25 (.map (some b)) (.int .i64 p) false).run Try.prog w = .ok (.map (some (f p))) w := by
  obtain ⟨D, hD, _, hyes, _⟩ := h.outer
  obtain ⟨v, ps, hrun, hv⟩ := hD.lookup (t := 25) (e := 34) law Try.underlying25 (zero34 w) (zd := .nil) (zp := []) rfl (keyOf_int_mk Try.underlying2 hw)
  have e := (hyes p hp).1
  unfold key at e
  rw [e] at hv
  rw [blkElem_some hv] at hrun
  exact hrun
theorem Tab.has (h : Tab w b n L f) {p q : Int} (hw : (Lit.int .i64 q).wf = true) (hp : p ∈ L.map Prod.fst) :
    (Instr.lookup 34 (.map (some (f p))) (.int .i64 q) true).run Try.prog w = .ok (.tuple #[.agg #[], .bool (decide ((p, q) ∈ L))]) w := by
  obtain ⟨_, E, hE, _, hq⟩ := h.inner p hp
  obtain ⟨v, ps, hrun, hv⟩ := hE.look_ok (t := 34) (e := 38) law Try.underlying34 (zero38 w) unitElem_mk (keyOf_int_mk Try.underlying2 hw)
  obtain ⟨rfl, _⟩ := unitElem_inv hv
  have e := hq q
  unfold key at e
  rw [e] at hrun
  exact hrun
theorem Tab.len (h : Tab w b n L f) (ty : TypeId) : (Builtin.len_ #[25] ty #[.map (some b)]).run Try.prog w = .ok (.int .i64 (dn (L.map Prod.fst))) w := by
  obtain ⟨D, hD, hs, _⟩ := h.outer
  have := hD.len (t := 25) Try.underlying25 ty
  rw [hs] at this
  exact this
theorem Tab.lenAt (h : Tab w b n L f) {p : Int} (hp : p ∈ L.map Prod.fst) (ty : TypeId) : (Builtin.len_ #[34] ty #[.map (some (f p))]).run Try.prog w = .ok (.int .i64 (dn (parts L p))) w := by
  obtain ⟨_, E, hE, hs, _⟩ := h.inner p hp
  have := hE.len (t := 34) Try.underlying34 ty
  rw [hs] at this
  exact this

/-! ### writing -/
theorem Tab.add_old (h : Tab w b n L f) {p q : Int} (hw : (Lit.int .i64 q).wf = true) (hp : p ∈ L.map Prod.fst) (hn : n < maxLen) :
    ∃ w3, (Instr.mapUpdate 34 (.map (some (f p))) (.int .i64 q) (.agg #[])).run Try.prog w = .ok () w3 ∧ Tab w3 b (n + 1) ((p, q) :: L) f ∧ Turned (Foot b L f) w w3 := by
  obtain ⟨⟨D, hD, hs, hyes, hno⟩, hi, ha⟩ := h
  obtain ⟨hne, E, hE, hsz, hq⟩ := hi p hp
  obtain ⟨w3, hrun, hown, hg⟩ := hE.update (t := 34) (e := 38) law Try.underlying34 hn (keyOf_int_mk Try.underlying2 hw) unitElem_mk
  have hmem : ∀ x, x ∈ ((p, q) :: L).map Prod.fst ↔ x ∈ L.map Prod.fst := by
    intro x
    simp only [List.map_cons, List.mem_cons]
    exact ⟨fun h => by rcases h with rfl | h; exact hp; exact h, .inr⟩
  refine ⟨w3, hrun, ⟨⟨D, ?_, ?_, ?_, ?_⟩, ?_, ?_⟩, Turned.of_grown hg (.inr ⟨p, hp, rfl⟩)⟩
  · exact (ownsMap_of hD (hg.block b hD.lt (fun e => hne (by cases e; rfl)))).mono (Nat.le_succ _)
  · rw [hs]; simp only [List.map_cons]; rw [dn, if_pos hp]
  · intro x hx; exact hyes x ((hmem x).1 hx)
  · intro x hx; exact hno x (fun h => hx ((hmem x).2 h))
  · intro x hx
    have hx' := (hmem x).1 hx
    by_cases e : x = p
    · subst e
      refine ⟨hne, _, hown, ?_, fun y => ?_⟩
      · rw [Maps.size_put (hE.tidy law), parts_same, dn, hsz]
        have : Maps.has E (.int .i64 q) = decide ((x, q) ∈ L) := hq q
        rw [this]
        by_cases hm : (x, q) ∈ L
        · rw [if_pos (by simpa using hm), if_pos ((mem_parts L x q).2 hm)]
        · rw [if_neg (by simpa using hm), if_neg (fun h => hm ((mem_parts L x q).1 h))]
      · by_cases ey : y = q
        · subst ey
          rw [show (Lit.int .i64 y) = key y from rfl, Maps.has_put_same hE.isMap (key_lit y)]
          simp
        · rw [show (Lit.int .i64 q) = key q from rfl, Maps.has_put_other (key_ne ey), hq y]
          simp [ey]
    · obtain ⟨hne', E', hE', hsz', hq'⟩ := hi x hx'
      refine ⟨hne', E', (ownsMap_of hE' (hg.block _ hE'.lt (fun e' => e (ha x p hx' hp (Option.some.inj e'))))).mono (Nat.le_succ _), ?_, fun y => ?_⟩
      · rw [parts_other L q e]; exact hsz'
      · rw [hq' y]; simp [e]
  · intro x x' hx hx' e
    exact ha x x' ((hmem x).1 hx) ((hmem x').1 hx') e

theorem Tab.add_new (h : Tab w b n L f) {p q : Int} (hwp : (Lit.int .i64 p).wf = true) (hw : (Lit.int .i64 q).wf = true) (hp : p ∉ L.map Prod.fst) (hn : n < maxLen) :
    ∃ w2 w3, (Instr.mapUpdate 25 (.map (some b)) (.int .i64 p) (.map (some w.heap.size))).run Try.prog (w.alloc (.map #[] 0)) = .ok () w2 ∧
      (Instr.lookup 25 (.map (some b)) (.int .i64 p) false).run Try.prog w2 = .ok (.map (some w.heap.size)) w2 ∧
      (Instr.mapUpdate 34 (.map (some w.heap.size)) (.int .i64 q) (.agg #[])).run Try.prog w2 = .ok () w3 ∧
      Tab w3 b (n + 1) ((p, q) :: L) (fun x => if x = p then w.heap.size else f x) ∧ Turned (Foot b L f) w w3 := by
  have hlt : ∀ x, x ∈ L.map Prod.fst → f x < w.heap.size := fun x hx => h.lt (.inr ⟨x, hx, rfl⟩)
  have hbl : b < w.heap.size := h.lt (.inl rfl)
  obtain ⟨⟨D, hD, hs, hyes, hno⟩, hi, ha⟩ := h
  have hE1 := World.ownsMap_made (H := Unit) w Try.prog 2 unitElem
  obtain ⟨w2, hrun2, hown2, hg2⟩ := (hD.alloc (.map #[] 0)).update (t := 25) (e := 34) law Try.underlying25 hn (keyOf_int_mk Try.underlying2 hwp) (val := .map (some w.heap.size)) (d := .lit (.int .i64 (w.heap.size : Int))) (ps := []) rfl
  have hE2 := hE1.kept hg2 (fun e => by cases e; omega)
  obtain ⟨w3, hrun3, hown3, hg3⟩ := hE2.update (t := 34) (e := 38) law Try.underlying34 (by unfold maxLen; omega) (keyOf_int_mk Try.underlying2 hw) unitElem_mk
  have hlook : (Instr.lookup 25 (.map (some b)) (.int .i64 p) false).run Try.prog w2 = .ok (.map (some w.heap.size)) w2 := by
    obtain ⟨v, ps, hrun, hv⟩ := hown2.lookup (t := 25) (e := 34) law Try.underlying25 (zero34 w2) (zd := .nil) (zp := []) rfl (keyOf_int_mk Try.underlying2 hwp)
    rw [show (Lit.int .i64 p) = key p from rfl, Maps.atKey_put_same hD.isMap (key_lit p)] at hv
    rw [blkElem_some hv] at hrun
    exact hrun
  have hkeep : ∀ i, i < w.heap.size → i ≠ b → w3.heap[i]? = w.heap[i]? := fun i hi hne =>
    ((hg3.block i (Nat.lt_of_lt_of_le (by simp; omega) hg2.size) (fun e => by cases e; omega)).trans
      (hg2.block i (by simp; omega) (fun e => hne (by cases e; rfl)))).trans (Below.heap_alloc w _ i hi)
  refine ⟨w2, w3, hrun2, hlook, hrun3, ⟨⟨D.put (key p) (.lit (.int .i64 (w.heap.size : Int))), hown2.kept hg3 (fun e => by cases e; omega), ?_, ?_, ?_⟩, ?_, ?_⟩, ?_⟩
  · rw [Maps.size_put (hD.tidy law), hno p hp, hs]; simp only [List.map_cons]; rw [dn, if_neg hp]; rfl
  · intro x hx
    by_cases e : x = p
    · subst e
      rw [Maps.atKey_put_same hD.isMap (key_lit x), Maps.has_put_same hD.isMap (key_lit x)]
      simp
    · have hx' : x ∈ L.map Prod.fst := by
        simp only [List.map_cons, List.mem_cons] at hx
        exact hx.resolve_left e
      rw [Maps.atKey_put_other (key_ne e), Maps.has_put_other (key_ne e)]
      simp only [e, if_false]
      exact hyes x hx'
  · intro x hx
    have e : ¬ x = p := fun e => hx (by simp [e])
    rw [Maps.has_put_other (key_ne e)]
    exact hno x (fun h => hx (by simp only [List.map_cons, List.mem_cons]; exact .inr h))
  · intro x hx
    by_cases e : x = p
    · subst e
      simp only [if_true]
      refine ⟨by omega, _, hown3.mono (by omega), ?_, fun y => ?_⟩
      · rw [Maps.size_put Maps.tidy_empty, parts_same, parts_nil L hp]
        rfl
      · by_cases ey : y = q
        · subst ey
          rw [show (Lit.int .i64 y) = key y from rfl, Maps.has_put_same Maps.isMap_empty (key_lit y)]
          simp
        · rw [show (Lit.int .i64 q) = key q from rfl, Maps.has_put_other (key_ne ey)]
          have hm : (x, y) ∉ L := fun h => hp (List.mem_map.2 ⟨_, h, rfl⟩)
          simp [Maps.has, ey, hm]
    · have hx' : x ∈ L.map Prod.fst := by
        simp only [List.map_cons, List.mem_cons] at hx
        exact hx.resolve_left e
      obtain ⟨hne', E', hE', hsz', hq'⟩ := hi x hx'
      simp only [e, if_false]
      refine ⟨hne', E', (ownsMap_of hE' (hkeep _ (hlt x hx') hne')).mono (Nat.le_succ _), ?_, fun y => ?_⟩
      · rw [parts_other L q e]; exact hsz'
      · rw [hq' y]; simp [e]
  · intro x x' hx hx' e
    simp only [List.map_cons, List.mem_cons] at hx hx'
    by_cases e1 : x = p <;> by_cases e2 : x' = p
    · rw [e1, e2]
    · have := hlt x' (hx'.resolve_left e2)
      simp only [e1, e2, if_true, if_false] at e
      omega
    · have := hlt x (hx.resolve_left e1)
      simp only [e1, e2, if_true, if_false] at e
      omega
    · simp only [e1, e2, if_false] at e
      exact ha x x' (hx.resolve_left e1) (hx'.resolve_left e2) e
  · exact ⟨hg3.os.trans hg2.os, hg3.tape.trans hg2.tape, hg3.output.trans hg2.output, Nat.le_trans (by simp) (Nat.le_trans hg2.size hg3.size), fun k hk hS => hkeep k hk (fun e => hS (.inl e))⟩

theorem foot_new {p q : Int} {m i : Nat} (h : Foot b ((p, q) :: L) (fun x => if x = p then m else f x) i) : Foot b L f i ∨ m ≤ i := by
  rcases h with rfl | ⟨x, hx, rfl⟩
  · exact .inl (.inl rfl)
  · by_cases e : x = p
    · simp [e]
    · simp only [List.map_cons, List.mem_cons] at hx
      exact .inl (.inr ⟨x, hx.resolve_left e, by simp [e]⟩)
theorem foot_old {p q : Int} {i : Nat} (hp : p ∈ L.map Prod.fst) (h : Foot b ((p, q) :: L) f i) : Foot b L f i := by
  rcases h with rfl | ⟨x, hx, rfl⟩
  · exact .inl rfl
  · simp only [List.map_cons, List.mem_cons] at hx
    rcases hx with rfl | hx
    · exact .inr ⟨_, hp, rfl⟩
    · exact .inr ⟨x, hx, rfl⟩
end Go.Proofs.Qxb6627895a
