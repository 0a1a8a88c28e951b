/-
  The words of the walks: rows of bytes, rows of slices, wherever they lie; what is copied.
-/
import Derived.Test.Qxb6627947aRows
import Derived.WalkKit
import Derived.ProofKit
import Derived.Below
import Derived.OpenShut
import Derived.WalkSpells
import Derived.WalkSmall
import Derived.Deep.OwnRows
import Derived.Laws.CopyOwn
namespace Go.Proofs.Qxb6627947a
open Go.ChangeShapes Go.WideShapes Go.ChangeAt Go.RowKit

/-- THE SLICE (a, len) HOLDS THE BYTES o 0, o 1, .. (where there is one, it has an address). -/
def ByteRow (w : World) (a : Option Addr) (len : Nat) (o : Nat → Int) : Prop :=
  (0 < len → ∃ b off, a = some ⟨b, off, none⟩ ∧ ∀ i, i < len → w.cell? ⟨b, off + i, none⟩ = some (.int .u8 (o i))) ∧ ∀ i, 0 ≤ o i ∧ o i ≤ 255

/-- THE SLICE (a, len) HOLDS THE SLICES (A i, L i, C i). -/
def SlRow (w : World) (a : Option Addr) (len : Nat) (A : Nat → Option Addr) (L C : Nat → Nat) : Prop :=
  0 < len → ∃ b off, a = some ⟨b, off, none⟩ ∧ ∀ i, i < len → w.cell? ⟨b, off + i, none⟩ = some (.slice (A i) (L i) (C i))

theorem ByteRow.at {w : World} {a : Option Addr} {len : Nat} {o : Nat → Int} (h : ByteRow w a len o) {j : Nat} (hj : j < len) :
    ∃ b off, a = some ⟨b, off, none⟩ ∧ b < w.heap.size ∧ ∀ i, i < len → w.cell? ⟨b, off + i, none⟩ = some (.int .u8 (o i)) := by
  obtain ⟨b, off, e, hc⟩ := h.1 (by omega)
  exact ⟨b, off, e, World.block_lt_of_cell? w ⟨b, off + j, none⟩ (hc j hj), hc⟩
theorem SlRow.at {w : World} {a : Option Addr} {len : Nat} {A : Nat → Option Addr} {L C : Nat → Nat} (h : SlRow w a len A L C) {j : Nat} (hj : j < len) :
    ∃ b off, a = some ⟨b, off, none⟩ ∧ b < w.heap.size ∧ ∀ i, i < len → w.cell? ⟨b, off + i, none⟩ = some (.slice (A i) (L i) (C i)) := by
  obtain ⟨b, off, e, hc⟩ := h (by omega)
  exact ⟨b, off, e, World.block_lt_of_cell? w ⟨b, off + j, none⟩ (hc j hj), hc⟩
theorem ByteRow.below {w w' : World} {a : Option Addr} {len : Nat} {o : Nat → Int} (h : ByteRow w a len o) (t : Below w.heap.size w w') : ByteRow w' a len o := by
  refine ⟨fun hl => ?_, h.2⟩
  obtain ⟨b, off, e, hb, hc⟩ := h.at hl
  exact ⟨b, off, e, fun i hi => (t.cell (p := ⟨b, off + i, none⟩) hb).trans (hc i hi)⟩
theorem SlRow.below {w w' : World} {a : Option Addr} {len : Nat} {A : Nat → Option Addr} {L C : Nat → Nat} (h : SlRow w a len A L C) (t : Below w.heap.size w w') : SlRow w' a len A L C := by
  intro hl
  obtain ⟨b, off, e, hb, hc⟩ := h.at hl
  exact ⟨b, off, e, fun i hi => (t.cell (p := ⟨b, off + i, none⟩) hb).trans (hc i hi)⟩
theorem ByteRow.take {w : World} {a : Option Addr} {len m : Nat} {o : Nat → Int} (h : ByteRow w a len o) (hm : m ≤ len) : ByteRow w a m o := by
  refine ⟨fun hl => ?_, h.2⟩
  obtain ⟨b, off, e, hc⟩ := h.1 (by omega)
  exact ⟨b, off, e, fun i hi => hc i (by omega)⟩
theorem SlRow.take {w : World} {a : Option Addr} {len m : Nat} {A : Nat → Option Addr} {L C : Nat → Nat} (h : SlRow w a len A L C) (hm : m ≤ len) : SlRow w a m A L C := by
  intro hl
  obtain ⟨b, off, e, hc⟩ := h (by omega)
  exact ⟨b, off, e, fun i hi => hc i (by omega)⟩

/-! ### make, and copy into what was made -/
theorem info5 : (Try.prog.info? 5).map (fun i => (i.zero, i.size, i.bytes)) = some (some (.int .u8 0), 1, 1) := by kernel_rfl
theorem info22 : (Try.prog.info? 22).map (fun i => (i.zero, i.size, i.bytes)) = some (some (.slice none 0 0), 1, 24) := by kernel_rfl
theorem size5 : (Try.prog.info? 5).map (·.size) = some 1 := by kernel_rfl
theorem make22 (n : Nat) (hn : n ≤ 1048576) (w : World) : (Instr.makeSlice 22 (.int .i64 (n : Int)) (.int .i64 (n : Int))).run Try.prog w = .ok (.slice (some ⟨w.heap.size, 0, none⟩) n n) (w.alloc (.cells (madeCells #[.int .u8 0] n) 5)) :=
  run_make_row' 22 5 (.int .u8 0) 1 Try.underlying22 info5 rfl .i64 .i64 n (by omega) (by omega) w
theorem make23 (n : Nat) (hn : n ≤ 1048576) (w : World) : (Instr.makeSlice 23 (.int .i64 (n : Int)) (.int .i64 (n : Int))).run Try.prog w = .ok (.slice (some ⟨w.heap.size, 0, none⟩) n n) (w.alloc (.cells (madeCells #[.slice none 0 0] n) 22)) :=
  run_make_row' 23 22 (.slice none 0 0) 24 Try.underlying23 info22 rfl .i64 .i64 n (by omega) (by omega) w

theorem copy_made {w : World} {a : Option Addr} {n cap : Nat} {o : Nat → Int} (h : ByteRow w a n o) (ty : TypeId) :
    ∃ w2, (Builtin.copy_ #[22, 22] ty #[.slice (some ⟨w.heap.size, 0, none⟩) n n, .slice a n cap]).run Try.prog (w.alloc (.cells (madeCells #[.int .u8 0] n) 5)) = .ok (.int .i64 n) w2 ∧
      w2.rowIs w.heap.size 5 n (fun i => .int .u8 (o i)) ∧ Below w.heap.size w w2 := by
  have hal : Below w.heap.size w (w.alloc (.cells (madeCells #[.int .u8 0] n) 5)) := (Below.refl _ _).alloc (Nat.le_refl _) _
  have hrow := World.rowIs_made w (.int .u8 0) n 5
  by_cases hn : n = 0
  · subst hn
    refine ⟨_, run_copy_none (P := Try.prog) _ 22 22 ty 5 _ _ 0 0 0 cap Try.underlying22 size5 rfl, hrow.congr (fun i hi => by omega), hal⟩
  · obtain ⟨b, off, rfl, hb, hc⟩ := h.at (j := 0) (by omega)
    obtain ⟨c, hg, hs, _⟩ := hrow
    have hrun := run_copy_row (P := Try.prog) (w.alloc (.cells (madeCells #[.int .u8 0] n) 5)) 22 22 ty 5 w.heap.size 0 n n ⟨b, off, none⟩ n cap c 5 ((List.range n).map fun i => Value.int .u8 (o i))
      Try.underlying22 size5 hg (by simp) (fun j v hj => by
        have hjn : j < n := by
          have := (List.getElem?_eq_some_iff.1 hj).1
          simpa using this
        rw [List.getElem?_map, List.getElem?_range hjn] at hj
        simp only [Option.map_some, Option.some.injEq] at hj
        subst hj
        rw [WideShapes.add_plain, hal.cell (p := ⟨b, off + j, none⟩) hb]
        exact hc j hjn) (by simp [hs]) (fun v hv => by
        obtain ⟨i, _, rfl⟩ := List.mem_map.1 hv
        rfl)
    refine ⟨_, by simpa [goInt] using hrun, ⟨_, setRow_heap _ _ c _ 5 _ hg, ?_, fun i hi => ?_⟩, below_setRow hal (Nat.le_refl _) _⟩
    · simp [hs]
    · simp [hs, hi]
end Go.Proofs.Qxb6627947a
