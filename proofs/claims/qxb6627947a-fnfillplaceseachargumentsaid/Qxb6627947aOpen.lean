/-
  The arguments opened: a slice of bytes, a slice of slices of bytes.
-/
import Derived.Test.Qxb6627947aBase
import Derived.Deep.Matrix
namespace Go.Proofs.Qxb6627947a
open Go.ChangeShapes Go.WideShapes Go.ChangeAt Go.RowKit

theorem byte_getD {zs : List Int} (h : ∀ n ∈ zs, (Lit.int .u8 n).wf = true) (j : Nat) : 0 ≤ zs.getD j 0 ∧ zs.getD j 0 ≤ 255 := by
  rw [List.getD_eq_getElem?_getD]
  cases e : zs[j]? with
  | none => exact ⟨by simp, by simp⟩
  | some x => exact bounds_u8 (h x (List.mem_of_getElem? e))

/-- cells at a slice's address, as a row of bytes -/
theorem row_at {W : World} {x : Addr} {len m : Nat} {zs : List Int} (hl : len ≤ m) (hc : ∀ i, i < m → W.cell? (x.add i) = some (.int .u8 (zs.getD i 0))) (hw : ∀ n ∈ zs, (Lit.int .u8 n).wf = true) : ByteRow W (some x) len (fun i => zs.getD i 0) := by
  refine ⟨fun hp => ?_, fun i => byte_getD hw i⟩
  obtain ⟨b, off, spot⟩ := x
  have hspot : spot = none := by simpa [Addr.add] using World.cell?_spot (hc 0 (by omega))
  subst hspot
  exact ⟨b, off, rfl, fun j hj => by rw [← Go.WideShapes.add_plain]; exact hc j (by omega)⟩

theorem open_bytes {H : Type} {enc : TypeId × Value → H} {W : World} {a : Option Addr} {n c : Nat} {d : DataW H} {p : List MemPlace} (h : DataW.Trod enc Try.prog W 0 (fun _ => true) true 22 (.slice a n c) d p) : ∃ o, ByteRow W a n o := by
  obtain ⟨fuel, hf⟩ := h
  rcases open_ints Try.underlying22 Try.underlying5 (by kernel_rfl) hf with ⟨hcs, _⟩ | ⟨x, l, c', zs, hcs, _, hl, hm, hz, _, hcell, hwz⟩
  · simp [Value.cells] at hcs
    obtain ⟨rfl, rfl, rfl⟩ := hcs
    exact ⟨fun _ => 0, fun hp => by omega, fun _ => ⟨Int.le_refl _, by show (0 : Int) ≤ 255; decide⟩⟩
  · simp [Value.cells] at hcs
    obtain ⟨rfl, rfl, rfl⟩ := hcs
    exact ⟨_, row_at (by rw [hz]; simpa using hl) hcell hwz⟩

theorem open_rows {H : Type} {enc : TypeId × Value → H} {W : World} {a : Option Addr} {n c : Nat} {d : DataW H} {p : List MemPlace} (h : DataW.Trod enc Try.prog W 0 (fun _ => true) true 23 (.slice a n c) d p) :
    ∃ (A : Nat → Option Addr) (L C : Nat → Nat) (O : Nat → Nat → Int), SlRow W a n A L C ∧ ∀ r, r < n → ByteRow W (A r) (L r) (O r) := by
  obtain ⟨fuel, hf⟩ := h
  rcases Go.Deep.open_int_rows Try.underlying23 Try.underlying22 Try.underlying5 (by kernel_rfl) (by kernel_rfl) hf with ⟨hcs, _⟩ | ⟨x, l, c', A, L, C, Z, hcs, _, hl, hm, _, hr⟩
  · simp [Value.cells] at hcs
    obtain ⟨rfl, rfl, rfl⟩ := hcs
    exact ⟨fun _ => none, fun _ => 0, fun _ => 0, fun _ _ => 0, fun hp => by omega, fun r hr => by omega⟩
  · simp [Value.cells] at hcs
    obtain ⟨rfl, rfl, rfl⟩ := hcs
    refine ⟨A, L, C, fun r i => (Z r).getD i 0, fun hp => ?_, fun r hrn => ?_⟩
    · obtain ⟨b, off, spot⟩ := x
      have hspot : spot = none := by simpa [Addr.add] using World.cell?_spot (hr 0 (by omega)).1
      subst hspot
      exact ⟨b, off, rfl, fun j hj => by rw [← Go.WideShapes.add_plain]; exact (hr j (by omega)).1⟩
    · obtain ⟨_, h1, _, h3, h4, h5, h6⟩ := hr r (by omega)
      cases hA : A r with
      | none =>
        have := h5 hA
        exact ⟨fun hp => by omega, fun i => byte_getD h4 i⟩
      | some y => exact row_at h1 (h6 y hA).2 h4
end Go.Proofs.Qxb6627947a
