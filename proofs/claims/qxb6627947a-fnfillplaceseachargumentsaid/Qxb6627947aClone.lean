/-
  The contracts of cloneBytes (19), cloneSlices (8).
-/
import Derived.Test.Qxb6627947aForm
namespace Go.Proofs.Qxb6627947a
open Go.ChangeShapes Go.WideShapes Go.ChangeAt Go.RowKit

theorem nil22 (w : World) (a : Option Addr) (n c : Nat) : (binOp .eql 22 (.slice a n c) (.slice none 0 0)).run Try.prog w = .ok (.bool a.isNone) w := Lib.run_eql_slice_nil w 22 5 a n c 0 0 Try.underlying22
theorem nil23 (w : World) (a : Option Addr) (n c : Nat) : (binOp .eql 23 (.slice a n c) (.slice none 0 0)).run Try.prog w = .ok (.bool a.isNone) w := Lib.run_eql_slice_nil w 23 22 a n c 0 0 Try.underlying23
theorem nnil22 (w : World) (a : Option Addr) (n c : Nat) : (binOp .neq 22 (.slice a n c) (.slice none 0 0)).run Try.prog w = .ok (.bool (!a.isNone)) w := run_neq_slice_nil_any w 22 5 a n c 0 0 Try.underlying22

theorem row_bytes {w : World} {b n : Nat} {f : Nat → Value} {o : Nat → Int} (h : w.rowIs b 5 n f) (e : ∀ i, i < n → f i = .int .u8 (o i)) (ho : ∀ i, 0 ≤ o i ∧ o i ≤ 255) : ByteRow w (some ⟨b, 0, none⟩) n o :=
  ⟨fun _ => ⟨b, 0, rfl, fun i hi => by rw [Nat.zero_add, h.cell hi, e i hi]⟩, ho⟩

/-- THE ANSWER e IS A COPY OF A SLICE OF BYTES -/
def CloneB (B : Nat) (w' : World) (a : Option Addr) (len : Nat) (o : Nat → Int) (e : Ending) : Prop := ∃ a', e = .returned (.slice a' len len) ∧ (a' = none ↔ a = none) ∧ ByteRow w' a' len o ∧ ∀ x, a' = some x → B ≤ x.block ∧ x.block < w'.heap.size

set_option maxHeartbeats 1000000 in
theorem cloneBytes_any {w : World} {a : Option Addr} {len cap : Nat} {o : Nat → Int} (h : ByteRow w a len o) (hm : len ≤ 1048576) :
    Calls Try.prog 19 #[.slice a len cap] w fun e w' => CloneB w.heap.size w' a len o e ∧ Below w.heap.size w w' := by
  cases a with
  | none =>
    have hl : len = 0 := by
      by_cases hl : len = 0
      · exact hl
      · obtain ⟨b, off, e, _⟩ := h.1 (by omega); cases e
    subst hl
    have H : Hid (CloneB w.heap.size w none 0 o (.returned (.slice none 0 0))) := ⟨none, rfl, Iff.rfl, h, fun x hx => (by cases hx)⟩
    clear h
    have hq := nil22
    go_enter Try.func19, Try.ntmps19
    go_wp2
    go_ret
    exact ⟨H.out, Below.refl _ _⟩
  | some x =>
    have hmk := make22 len hm
    have hq := nil22
    have hmd := World.rowIs_made w (.int .u8 0) len 5
    go_enter Try.func19, Try.ntmps19
    go_wp2
    go_loopw [4] (fun i wr => ∃ k : Nat, k ≤ len ∧ i = .int .i64 k ∧ wr.rowIs w.heap.size 5 len (fun j => if j < k then .int .u8 (o j) else .int .u8 0) ∧ Below w.heap.size w wr) (fun i _ => len - (intOf i).toNat)
    case atStart => exact ⟨0, Nat.zero_le _, rfl, hmd.congr (fun j _ => by simp), (Below.refl _ _).alloc (Nat.le_refl _) _⟩
    case round =>
      clear hmd hmk
      obtain ⟨k, hk, rfl, hrow, hbel⟩ := hrel
      by_cases hlt : k < len
      · obtain ⟨b, off, e, hb, hcell⟩ := h.at hlt
        cases e
        have g := (hbel.cell (p := ⟨b, off + k, none⟩) hb).trans (hcell k hlt)
        have g2 := hrow.cell hlt
        have g3 := hrow.frozen k
        have HR : Hid ((wr.setCell ⟨w.heap.size, k, none⟩ (.int .u8 (o k))).rowIs w.heap.size 5 len (fun j => if j < k + 1 then .int .u8 (o j) else .int .u8 0)) := (hrow.set k (.int .u8 (o k))).congr (fun j hj => by
          by_cases e : j = k
          · subst e; simp
          · by_cases h2 : j < k
            · rw [if_neg e, if_pos h2, if_pos (by omega)]
            · rw [if_neg e, if_neg h2, if_neg (by omega)])
        have HB : Hid (Below w.heap.size w (wr.setCell ⟨w.heap.size, k, none⟩ (.int .u8 (o k)))) := hbel.setCell (Nat.le_refl _) _
        clear h hcell hrow hbel
        simp only [Nat.lt_irrefl, if_false] at g2
        generalize o k = x at *
        go_wp2
        go_roundw
        case rel => exact ⟨k + 1, by omega, by go_num, HR.out, HB.out⟩
        case measure => simp [intOf]; omega
      · have HF : Hid (CloneB w.heap.size wr (some x) len o (.returned (.slice (some ⟨w.heap.size, 0, none⟩) len len))) :=
          ⟨_, rfl, by simp, row_bytes hrow (fun i hi => by rw [if_pos (by omega)]) h.2, fun y hy => by cases hy; exact ⟨Nat.le_refl _, hrow.lt⟩⟩
        clear h hrow
        go_wp2
        go_ret
        exact ⟨HF.out, hbel⟩

/-! ### cloneSlices -/
theorem ByteRow.keep {w w' : World} {a : Option Addr} {len : Nat} {o : Nat → Int} (h : ByteRow w a len o) (hk : ∀ x, a = some x → w'.heap[x.block]? = w.heap[x.block]?) : ByteRow w' a len o := by
  refine ⟨fun hl => ?_, h.2⟩
  obtain ⟨b, off, e, hc⟩ := h.1 hl
  exact ⟨b, off, e, fun i hi => (World.cell?_of_block (a := ⟨b, off + i, none⟩) (hk ⟨b, off, none⟩ e)).trans (hc i hi)⟩

/-- element r of the copy: the same bytes, nil where it was nil, apart from block b -/
def ElemOK (w : World) (b : Nat) (A A' : Nat → Option Addr) (L : Nat → Nat) (O : Nat → Nat → Int) (r : Nat) : Prop :=
  (A' r = none ↔ A r = none) ∧ ByteRow w (A' r) (L r) (O r) ∧ ∀ x, A' r = some x → b < x.block ∧ x.block < w.heap.size

/-- THE ANSWER e IS A COPY OF A SLICE OF SLICES, made from block B on -/
def CloneS (B : Nat) (w : World) (a : Option Addr) (len : Nat) (A : Nat → Option Addr) (L : Nat → Nat) (O : Nat → Nat → Int) (e : Ending) : Prop :=
  (a = none ∧ len = 0 ∧ e = .returned (.slice none 0 0)) ∨
  ∃ b A', a ≠ none ∧ B ≤ b ∧ e = .returned (.slice (some ⟨b, 0, none⟩) len len) ∧ w.rowIs b 22 len (fun r => .slice (A' r) (L r) (L r)) ∧ ∀ r, r < len → ElemOK w b A A' L O r

def RowTo (w : World) (b len : Nat) (A A' : Nat → Option Addr) (L : Nat → Nat) (O : Nat → Nat → Int) (k : Nat) : Prop :=
  w.rowIs b 22 len (fun j => if j < k then .slice (A' j) (L j) (L j) else .slice none 0 0) ∧ ∀ r, r < k → ElemOK w b A A' L O r

theorem rowTo_step {w w1 : World} {b len k : Nat} {A A' : Nat → Option Addr} {L : Nat → Nat} {O : Nat → Nat → Int} (hr : RowTo w b len A A' L O k) (hk : k < len) (t : Below w.heap.size w w1) {a' : Option Addr}
    (h1 : a' = none ↔ A k = none) (h2 : ByteRow w1 a' (L k) (O k)) (h3 : ∀ x, a' = some x → w.heap.size ≤ x.block) (hlt : ∀ x, a' = some x → x.block < w1.heap.size) :
    RowTo (w1.setCell ⟨b, k, none⟩ (.slice a' (L k) (L k))) b len A (fun j => if j = k then a' else A' j) L O (k + 1) := by
  obtain ⟨hrow, hel⟩ := hr
  have hb : b < w.heap.size := hrow.lt
  have hrow1 := hrow.of_block (t.block b hb)
  have hsz : (w1.setCell ⟨b, k, none⟩ (.slice a' (L k) (L k))).heap.size = w1.heap.size := by simp
  refine ⟨(hrow1.set k _).congr fun j hj => ?_, fun r hr => ?_⟩
  · by_cases e : j = k
    · subst e; simp
    · by_cases hj2 : j < k
      · simp [e, hj2, show j < k + 1 by omega]
      · simp [e, hj2, show ¬ j < k + 1 by omega]
  · by_cases e : r = k
    · subst e
      refine ⟨by simpa using h1, ?_, fun x hx => ?_⟩
      · simp only [if_true]
        exact h2.keep fun x hx => Below.heap_setCell _ _ _ _ (by have := h3 x hx; show x.block ≠ b; omega)
      · simp only [if_true] at hx
        have := h3 x hx
        exact ⟨by omega, by rw [hsz]; exact hlt x hx⟩
    · obtain ⟨g1, g2, g3⟩ := hel r (by omega)
      refine ⟨by simpa [e] using g1, ?_, fun x hx => ?_⟩
      · simp only [e, if_false]
        refine (g2.below t).keep fun x hx => Below.heap_setCell _ _ _ _ (by have := g3 x hx; show x.block ≠ b; omega)
      · simp only [e, if_false] at hx
        have := g3 x hx
        have := t.size
        exact ⟨by omega, by rw [hsz]; omega⟩

set_option maxHeartbeats 1000000 in
theorem cloneSlices_any {w : World} {a : Option Addr} {len cap : Nat} {A : Nat → Option Addr} {L C : Nat → Nat} {O : Nat → Nat → Int} (h : SlRow w a len A L C) (hm : len ≤ 1048576) (hL : ∀ j, j < len → L j ≤ 1048576) (hO : ∀ j, j < len → ByteRow w (A j) (L j) (O j)) :
    Calls Try.prog 8 #[.slice a len cap] w fun e w' => CloneS w.heap.size w' a len A L O e ∧ Below w.heap.size w w' := by
  cases a with
  | none =>
    have hl : len = 0 := by
      by_cases hl : len = 0
      · exact hl
      · obtain ⟨b, off, e, _⟩ := h (by omega); cases e
    subst hl
    have H : Hid (CloneS w.heap.size w none 0 A L O (.returned (.slice none 0 0))) := .inl ⟨rfl, rfl, rfl⟩
    clear h hL hO
    have hq := nil23
    go_enter Try.func8, Try.ntmps8
    go_wp2
    go_ret
    exact ⟨H.out, Below.refl _ _⟩
  | some x =>
    have hmk := make23 len hm
    have hq := nil23
    have hmd := World.rowIs_made w (.slice none 0 0) len 22
    have hbx : 0 < len → x.block < w.heap.size := fun hl => by
      obtain ⟨b, off, e, hb, _⟩ := h.at hl; cases e; exact hb
    go_enter Try.func8, Try.ntmps8
    go_wp2
    go_loopw [4] (fun i wr => ∃ k : Nat, k ≤ len ∧ i = .int .i64 k ∧ (∃ A', RowTo wr w.heap.size len A A' L O k) ∧ Below w.heap.size w wr) (fun i _ => len - (intOf i).toNat)
    case atStart => exact ⟨0, Nat.zero_le _, rfl, ⟨fun _ => none, hmd.congr (fun j _ => by simp), fun r hr => by omega⟩, (Below.refl _ _).alloc (Nat.le_refl _) _⟩
    case round =>
      clear hmd hmk
      obtain ⟨k, hk, rfl, ⟨A', hrow⟩, hbel⟩ := hrel
      by_cases hlt : k < len
      · obtain ⟨b, off, e, hb, hcell⟩ := h.at hlt
        cases e
        have g := (hbel.cell (p := ⟨b, off + k, none⟩) hb).trans (hcell k hlt)
        have hOk := (hO k hlt).below hbel
        have hLk := hL k hlt
        have f1 : wr.cell? ⟨w.heap.size, k, none⟩ = some (.slice none 0 0) := by rw [hrow.1.cell hlt]; simp
        have f2 := hrow.1.frozen k
        have hwb : w.heap.size < wr.heap.size := hrow.1.lt
        have HR := fun (w1 : World) (a' : Option Addr) => rowTo_step (w1 := w1) (a' := a') hrow hlt
        have HH : Hid (∀ (w1 : World) (a' : Option Addr), Below wr.heap.size wr w1 → (a' = none ↔ A k = none) → ByteRow w1 a' (L k) (O k) → (∀ x, a' = some x → wr.heap.size ≤ x.block) → (∀ x, a' = some x → x.block < w1.heap.size) → ∃ A2, RowTo (w1.setCell ⟨w.heap.size, k, none⟩ (.slice a' (L k) (L k))) w.heap.size len A A2 L O (k + 1)) :=
          fun w1 a' h1 h2 h3 h4 h5 => ⟨_, HR w1 a' h1 h2 h3 h4 h5⟩
        clear HR h hL hO hcell hrow hbx
        revert g hOk hLk HH
        generalize A k = ak
        generalize L k = lk
        generalize O k = ok
        generalize C k = ck
        intro g hOk hLk HH
        go_wp2_with fail
        refine (cloneBytes_any hOk hLk).mono ?_
        rintro e w1 ⟨⟨a', rfl, h1, h2, h3⟩, bw1⟩
        have f1' : w1.cell? ⟨w.heap.size, k, none⟩ = some (.slice none 0 0) := by rw [bw1.cell (p := ⟨w.heap.size, k, none⟩) hwb]; exact f1
        have f2' : w1.frozen? ⟨w.heap.size, k, none⟩ = false := by rw [bw1.frozen (p := ⟨w.heap.size, k, none⟩) hwb]; exact f2
        have HX : Hid (∃ A2, RowTo (w1.setCell ⟨w.heap.size, k, none⟩ (.slice a' lk lk)) w.heap.size len A A2 L O (k + 1)) := HH.out w1 a' bw1 h1 h2 (fun x hx => (h3 x hx).1) (fun x hx => (h3 x hx).2)
        have HB : Hid (Below w.heap.size w (w1.setCell ⟨w.heap.size, k, none⟩ (.slice a' lk lk))) := (hbel.trans (bw1.mono (Nat.le_of_lt hwb))).setCell (Nat.le_refl _) _
        clear HH h1 h2 h3 bw1 hOk f1 f2 g hbel
        go_wp2
        go_roundw
        case rel => exact ⟨k + 1, by omega, by go_num, HX.out, HB.out⟩
        case measure => simp [intOf]; omega
      · have HF : Hid (CloneS w.heap.size wr (some x) len A L O (.returned (.slice (some ⟨w.heap.size, 0, none⟩) len len))) :=
          .inr ⟨w.heap.size, A', by simp, Nat.le_refl _, rfl, hrow.1.congr (fun i hi => by rw [if_pos (by omega)]), fun r hr => hrow.2 r (by omega)⟩
        clear h hL hO hrow hbx
        go_wp2
        go_ret
        exact ⟨HF.out, hbel⟩
end Go.Proofs.Qxb6627947a
