/-
  The contracts of add (15) and hasLink (11).
-/
import Derived.Test.Qxb6627895aTab
import Derived.WalkSpells
namespace Go.Proofs.Qxb6627895a
open Go.RowKit Go.Maps

theorem nil34 (w : World) (r : Option Nat) : (binOp .eql 34 (.map r) (.map none)).run Try.prog w = .ok (.bool r.isNone) w := run_eql_map_nil w _ _ _ r Try.underlying34
theorem nil25 (w : World) (r : Option Nat) : (binOp .eql 25 (.map r) (.map none)).run Try.prog w = .ok (.bool r.isNone) w := run_eql_map_nil w _ _ _ r Try.underlying25

set_option maxHeartbeats 400000 in
theorem add_any {w : World} {b n : Nat} {L : List (Int × Int)} {f : Int → Nat} (p q : Int) (h : Tab w b n L f) (hwp : (Lit.int .i64 p).wf = true) (hwq : (Lit.int .i64 q).wf = true) (hn : n < maxLen) :
    Calls Try.prog 15 #[.map (some b), .int .i64 p, .int .i64 q] w fun e w' => e = .returned (.tuple #[]) ∧
      ∃ f', Tab w' b (n + 1) ((p, q) :: L) f' ∧ Turned (Foot b L f) w w' ∧ ∀ i, Foot b ((p, q) :: L) f' i → Foot b L f i ∨ w.heap.size ≤ i := by
  by_cases hp : p ∈ L.map Prod.fst
  · have hl := h.look_old hwp hp
    obtain ⟨w3, hu, ht, hg⟩ := h.add_old hwq hp hn
    have H : Hid (∃ f', Tab w3 b (n + 1) ((p, q) :: L) f' ∧ Turned (Foot b L f) w w3 ∧ ∀ i, Foot b ((p, q) :: L) f' i → Foot b L f i ∨ w.heap.size ≤ i) := ⟨f, ht, hg, fun i hi => .inl (foot_old hp hi)⟩
    clear h hp ht hg hwp hwq hn
    have hq := nil34
    go_enter Try.func15, Try.ntmps15
    go_wp2
    go_end0
    exact ⟨rfl, H.out⟩
  · have hmm := @run_makeMap Try.prog
    have hl := h.look_new hwp hp
    obtain ⟨w2, w3, hu1, hl2, hu2, ht, hg⟩ := h.add_new hwp hwq hp hn
    have H : Hid (∃ f', Tab w3 b (n + 1) ((p, q) :: L) f' ∧ Turned (Foot b L f) w w3 ∧ ∀ i, Foot b ((p, q) :: L) f' i → Foot b L f i ∨ w.heap.size ≤ i) := ⟨_, ht, hg, fun i hi => foot_new hi⟩
    clear h hp ht hg hwp hwq hn
    have hq := nil34
    go_enter Try.func15, Try.ntmps15
    go_wp2
    go_end0
    exact ⟨rfl, H.out⟩

/-- THE VALUE v IS THE TABLE OF THE SCRIPT L (nil: of none). -/
def TabV (w : World) (v : Value) (n : Nat) (L : List (Int × Int)) : Prop :=
  (v = .map none ∧ L = []) ∨ ∃ b f, v = .map (some b) ∧ Tab w b n L f

theorem TabV.below {w w' : World} {v : Value} {n : Nat} {L : List (Int × Int)} (h : TabV w v n L) (t : Below w.heap.size w w') : TabV w' v n L := by
  rcases h with h | ⟨b, f, e, h⟩
  · exact .inl h
  · exact .inr ⟨b, f, e, h.below t⟩

set_option maxHeartbeats 400000 in
theorem hasLink_any {w : World} {v : Value} {n : Nat} {L : List (Int × Int)} (p q : Int) (h : TabV w v n L) (hwp : (Lit.int .i64 p).wf = true) (hwq : (Lit.int .i64 q).wf = true) :
    Calls Try.prog 11 #[v, .int .i64 p, .int .i64 q] w fun e w' => e = .returned (.bool (decide ((p, q) ∈ L))) ∧ Below w.heap.size w w' := by
  have hq := nil34
  rcases h with ⟨rfl, rfl⟩ | ⟨b, f, rfl, h⟩
  · have hl : (Instr.lookup 25 (.map none) (.int .i64 p) false).run Try.prog w = .ok (.map none) w := Maps.look_nil false law Try.underlying25 (zero34 w) (keyOf_int_mk Try.underlying2 hwp)
    clear hwp hwq
    go_enter Try.func11, Try.ntmps11
    go_wp2
    go_ret
    exact ⟨rfl, Below.refl _ _⟩
  · by_cases hp : p ∈ L.map Prod.fst
    · have hl := h.look_old hwp hp
      have hh := h.has hwq hp
      clear h hp hwp hwq
      go_enter Try.func11, Try.ntmps11
      go_wp2
      go_ret
      exact ⟨rfl, (Below.refl _ _).alloc (Nat.le_refl _) _⟩
    · have hl := h.look_new hwp hp
      have hm : (p, q) ∉ L := fun h => hp (List.mem_map.2 ⟨_, h, rfl⟩)
      have H : Hid (decide ((p, q) ∈ L) = false) := by show decide ((p, q) ∈ L) = false; simp [hm]
      clear h hp hwp hwq hm
      go_enter Try.func11, Try.ntmps11
      go_wp2
      go_ret
      exact ⟨by rw [H.out]; rfl, Below.refl _ _⟩
end Go.Proofs.Qxb6627895a
