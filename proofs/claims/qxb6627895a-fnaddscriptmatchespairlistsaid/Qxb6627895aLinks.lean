/-
  The contract of Links.Add (7), and of ZZcontained (8), ZZcontainers (9).
-/
import Derived.Test.Qxb6627895aAdd
namespace Go.Proofs.Qxb6627895a
open Go.RowKit Go.Maps

/-- THE STRUCT IN BLOCK bl HOLDS THE TWO TABLES OF THE SCRIPT L; all lies from block B on, and apart. -/
structure LkS (w : World) (B bl n : Nat) (L : List (Int × Int)) (b1 b2 : Nat) (f1 f2 : Int → Nat) : Prop where
  c0 : w.cell? ⟨bl, 0, none⟩ = some (.map (some b1))
  c1 : w.cell? ⟨bl, 1, none⟩ = some (.map (some b2))
  t1 : Tab w b1 n L f1
  t2 : Tab w b2 n (flip2 L) f2
  u1 : ∀ i, Foot b1 L f1 i → B ≤ i ∧ i ≠ bl ∧ ¬ Foot b2 (flip2 L) f2 i
  u2 : ∀ i, Foot b2 (flip2 L) f2 i → B ≤ i ∧ i ≠ bl

def Lk (w : World) (B bl n : Nat) (L : List (Int × Int)) : Prop :=
  B ≤ bl ∧ ((L = [] ∧ w.cell? ⟨bl, 0, none⟩ = some (.map none) ∧ w.cell? ⟨bl, 1, none⟩ = some (.map none) ∧ w.frozen? ⟨bl, 0, none⟩ = false ∧ w.frozen? ⟨bl, 1, none⟩ = false) ∨
    ∃ b1 b2 f1 f2, LkS w B bl n L b1 b2 f1 f2)

theorem LkS.step {w w1 w2 : World} {B bl n : Nat} {L : List (Int × Int)} {b1 b2 : Nat} {f1 f2 f1' f2' : Int → Nat} {p q : Int} (hB : B ≤ w.heap.size) (h : LkS w B bl n L b1 b2 f1 f2)
    (a1 : Tab w1 b1 (n + 1) ((p, q) :: L) f1') (a2 : Turned (Foot b1 L f1) w w1) (a3 : ∀ i, Foot b1 ((p, q) :: L) f1' i → Foot b1 L f1 i ∨ w.heap.size ≤ i)
    (d1 : Tab w2 b2 (n + 1) ((q, p) :: flip2 L) f2') (d2 : Turned (Foot b2 (flip2 L) f2) w1 w2) (d3 : ∀ i, Foot b2 ((q, p) :: flip2 L) f2' i → Foot b2 (flip2 L) f2 i ∨ w1.heap.size ≤ i) :
    LkS w2 B bl (n + 1) ((p, q) :: L) b1 b2 f1' f2' ∧ Below B w w2 := by
  have hbl : bl < w.heap.size := World.block_lt_of_cell? w _ h.c0
  have hbl1 : bl < w1.heap.size := Nat.lt_of_lt_of_le hbl a2.size
  have e1 : w1.heap[bl]? = w.heap[bl]? := a2.block bl hbl (fun h' => (h.u1 bl h').2.1 rfl)
  have e2 : w2.heap[bl]? = w1.heap[bl]? := d2.block bl hbl1 (fun h' => (h.u2 bl h').2 rfl)
  have no12 : ∀ i, Foot b1 ((p, q) :: L) f1' i → ¬ Foot b2 (flip2 L) f2 i := fun i hi h' => by
    rcases a3 i hi with h1 | h1
    · exact (h.u1 i h1).2.2 h'
    · have := h.t2.lt h'; omega
  refine ⟨⟨?_, ?_, a1.turned d2 no12, d1, fun i hi => ⟨?_, ?_, fun h' => ?_⟩, fun i hi => ?_⟩, ?_⟩
  · rw [World.cell?_of_block (w := w1) (a := ⟨bl, 0, none⟩) e2, World.cell?_of_block (w := w) (a := ⟨bl, 0, none⟩) e1]; exact h.c0
  · rw [World.cell?_of_block (w := w1) (a := ⟨bl, 1, none⟩) e2, World.cell?_of_block (w := w) (a := ⟨bl, 1, none⟩) e1]; exact h.c1
  · rcases a3 i hi with h1 | h1
    · exact (h.u1 i h1).1
    · omega
  · rcases a3 i hi with h1 | h1
    · exact (h.u1 i h1).2.1
    · omega
  · rcases d3 i h' with h2 | h2
    · exact no12 i hi h2
    · have := a1.lt hi; omega
  · rcases d3 i hi with h2 | h2
    · exact h.u2 i h2
    · have := a2.size; exact ⟨by omega, by omega⟩
  · exact (a2.below hB (fun i hi => (h.u1 i hi).1)).trans (d2.below (Nat.le_trans hB a2.size) (fun i hi => (h.u2 i hi).1))

/-- the two new tables -/
theorem lk_make {w : World} {B bl n : Nat} (hB : B ≤ w.heap.size) (c0 : w.cell? ⟨bl, 0, none⟩ = some (.map none)) (c1 : w.cell? ⟨bl, 1, none⟩ = some (.map none)) (hb : B ≤ bl) :
    LkS ((((w.setCell ⟨bl, 0, none⟩ (.map (some w.heap.size))).setCell ⟨bl, 1, none⟩ (.map (some (w.heap.size + 1)))).alloc (.map #[] 0)).alloc (.map #[] 0)) B bl n [] w.heap.size (w.heap.size + 1) (fun _ => 0) (fun _ => 0) ∧
    Below B w ((((w.setCell ⟨bl, 0, none⟩ (.map (some w.heap.size))).setCell ⟨bl, 1, none⟩ (.map (some (w.heap.size + 1)))).alloc (.map #[] 0)).alloc (.map #[] 0)) := by
  have hbl : bl < w.heap.size := World.block_lt_of_cell? w _ c0
  have sz : ((w.setCell ⟨bl, 0, none⟩ (.map (some w.heap.size))).setCell ⟨bl, 1, none⟩ (.map (some (w.heap.size + 1)))).heap.size = w.heap.size := by simp
  have k0 : ((w.setCell ⟨bl, 0, none⟩ (.map (some w.heap.size))).setCell ⟨bl, 1, none⟩ (.map (some (w.heap.size + 1)))).cell? ⟨bl, 0, none⟩ = some (.map (some w.heap.size)) := by
    rw [World.cell?_setCell_other _ _ _ _ (by simp)]
    exact World.cell?_setCell_same _ _ _ c0
  have k1 : ((w.setCell ⟨bl, 0, none⟩ (.map (some w.heap.size))).setCell ⟨bl, 1, none⟩ (.map (some (w.heap.size + 1)))).cell? ⟨bl, 1, none⟩ = some (.map (some (w.heap.size + 1))) := by
    refine World.cell?_setCell_same _ _ _ (u := .map none) ?_
    rw [World.cell?_setCell_other _ _ _ _ (by simp)]
    exact c1
  have hbel : Below B w ((w.setCell ⟨bl, 0, none⟩ (.map (some w.heap.size))).setCell ⟨bl, 1, none⟩ (.map (some (w.heap.size + 1)))) := ((Below.refl B w).setCell hb _).setCell hb _
  revert sz k0 k1 hbel
  generalize ((w.setCell ⟨bl, 0, none⟩ (.map (some w.heap.size))).setCell ⟨bl, 1, none⟩ (.map (some (w.heap.size + 1)))) = W
  intro sz k0 k1 hbel
  have t1 := (tab_made W).mono (Nat.zero_le n)
  have t2 := (tab_made (W.alloc (.map #[] 0))).mono (Nat.zero_le n)
  have sz1 : (W.alloc (.map #[] 0)).heap.size = w.heap.size + 1 := by simp [sz]
  rw [sz1] at t2
  rw [sz] at t1
  have foot : ∀ b i, Foot b [] (fun _ => 0) i → i = b := fun b i h => by
    rcases h with h | ⟨p, hp, _⟩
    · exact h
    · cases hp
  refine ⟨⟨?_, ?_, ?_, t2, fun i hi => ?_, fun i hi => ?_⟩, ?_⟩
  · rw [World.cell?_alloc_lt _ _ _ (by rw [sz1]; show bl < _; omega), World.cell?_alloc_lt _ _ _ (by rw [sz]; exact hbl)]; exact k0
  · rw [World.cell?_alloc_lt _ _ _ (by rw [sz1]; show bl < _; omega), World.cell?_alloc_lt _ _ _ (by rw [sz]; exact hbl)]; exact k1
  · refine t1.keep fun i hi => ?_
    rw [foot _ i hi, Below.heap_alloc _ _ _ (by rw [sz1]; omega)]
  · have := foot _ i hi
    exact ⟨by omega, by omega, fun h => by have := foot _ i h; omega⟩
  · have := foot _ i hi
    exact ⟨by omega, by omega⟩
  · exact (hbel.alloc (by omega) _).alloc (by rw [sz1]; omega) _

set_option maxHeartbeats 400000 in
theorem Add_any {w : World} {B bl n : Nat} {L : List (Int × Int)} (p q : Int) (hB : B ≤ w.heap.size) (h : Lk w B bl n L) (hwp : (Lit.int .i64 p).wf = true) (hwq : (Lit.int .i64 q).wf = true) (hn : n < maxLen) :
    Calls Try.prog 7 #[.pointer (some ⟨bl, 0, none⟩), .int .i64 p, .int .i64 q] w fun e w' => e = .returned (.tuple #[]) ∧ Lk w' B bl (n + 1) ((p, q) :: L) ∧ Below B w w' := by
  have hq := nil25
  obtain ⟨hb, ⟨rfl, c0, c1, f0, f1⟩ | ⟨b1, b2, g1, g2, hS⟩⟩ := h
  · have hmm := @run_makeMap Try.prog
    obtain ⟨hS, hbw⟩ := lk_make (n := n) hB c0 c1 hb
    have hlt : bl < w.heap.size := World.block_lt_of_cell? w _ c0
    go_enter Try.func7, Try.ntmps7
    go_wp2_with fail
    refine (add_any _ _ hS.t1 hwp hwq hn).mono ?_
    rintro e w1 ⟨rfl, f1', a1, a2, a3⟩
    have hlt' : bl < ((((w.setCell ⟨bl, 0, none⟩ (.map (some w.heap.size))).setCell ⟨bl, 1, none⟩ (.map (some (w.heap.size + 1)))).alloc (.map #[] 0)).alloc (.map #[] 0)).heap.size := World.block_lt_of_cell? _ _ hS.c0
    have c1' : w1.cell? ⟨bl, 1, none⟩ = some (.map (some (w.heap.size + 1))) := by
      rw [World.cell?_of_block (a := ⟨bl, 1, none⟩) (a2.block bl hlt' (fun h' => (hS.u1 bl h').2.1 rfl))]; exact hS.c1
    have t2 := hS.t2.turned a2 (fun i hi h' => (hS.u1 i h').2.2 hi)
    obtain ⟨W, hW⟩ : ∃ W, W = ((((w.setCell ⟨bl, 0, none⟩ (.map (some w.heap.size))).setCell ⟨bl, 1, none⟩ (.map (some (w.heap.size + 1)))).alloc (.map #[] 0)).alloc (.map #[] 0)) := ⟨_, rfl⟩
    have hBW : B ≤ W.heap.size := by rw [hW]; exact Nat.le_trans hB hbw.size
    rw [← hW] at hS hbw a2 a3 hlt'
    clear hW c0 c1 f0 f1 hmm
    go_wp2_with fail
    refine (add_any _ _ t2 hwq hwp hn).mono ?_
    rintro e w2 ⟨rfl, f2', d1, d2, d3⟩
    obtain ⟨hS', hbel⟩ := hS.step hBW a1 a2 a3 d1 d2 d3
    go_wp2
    go_end0
    exact ⟨rfl, ⟨hb, .inr ⟨_, _, _, _, hS'⟩⟩, hbw.trans hbel⟩
  · have c0 := hS.c0
    have hlt : bl < w.heap.size := World.block_lt_of_cell? w _ c0
    go_enter Try.func7, Try.ntmps7
    go_wp2_with fail
    refine (add_any _ _ hS.t1 hwp hwq hn).mono ?_
    rintro e w1 ⟨rfl, f1', a1, a2, a3⟩
    have c1 : w1.cell? ⟨bl, 1, none⟩ = some (.map (some b2)) := by
      rw [World.cell?_of_block (w := w) (a := ⟨bl, 1, none⟩) (a2.block bl hlt (fun h' => (hS.u1 bl h').2.1 rfl))]; exact hS.c1
    have t2 := hS.t2.turned a2 (fun i hi h' => (hS.u1 i h').2.2 hi)
    go_wp2_with fail
    refine (add_any _ _ t2 hwq hwp hn).mono ?_
    rintro e w2 ⟨rfl, f2', d1, d2, d3⟩
    obtain ⟨hS', hbel⟩ := hS.step hB a1 a2 a3 d1 d2 d3
    go_wp2
    go_end0
    exact ⟨rfl, ⟨hb, .inr ⟨_, _, _, _, hS'⟩⟩, hbel⟩
end Go.Proofs.Qxb6627895a
