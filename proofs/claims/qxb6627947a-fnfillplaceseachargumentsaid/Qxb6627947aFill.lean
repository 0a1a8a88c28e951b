/-
  The contracts of argList.fill (20) and ZZFill (9).
-/
import Derived.Test.Qxb6627947aClone
namespace Go.Proofs.Qxb6627947a
open Go.ChangeShapes Go.WideShapes Go.ChangeAt Go.RowKit

/-! ### what fill does, op by op -/
/-- a slice: its address, its length, its capacity -/
structure Rn where
  a : Option Addr
  len : Nat
  cap : Nat
def Rn.val (r : Rn) : Value := .slice r.a r.len r.cap
/-- 'r[n:]' -/
def Rn.cut (r : Rn) (n : Nat) : Rn := ⟨if r.cap = n then r.a else r.a.map (·.add n), r.len - n, r.cap - n⟩
/-- the run ahead of op i -/
def rn (o : Nat → Int) (R : Nat → Rn) (r0 : Rn) : Nat → Rn
  | 0 => r0
  | i + 1 => if o i = 129 then R (jn o i) else if o i = 130 then rn o R r0 i else (rn o R r0 i).cut (o i).toNat
/-- the argument that op i stands for -/
def pv (o : Nat → Int) (R : Nat → Rn) (r0 : Rn) (i : Nat) : Rn :=
  if o i = 130 then R (jn o i) else ⟨(rn o R r0 i).a, (o i).toNat, (o i).toNat⟩
/-- the elements of args behind the first i ops -/
def fl (o : Nat → Int) (R : Nat → Rn) (r0 : Rn) (G : Nat → Rn) : Nat → Nat → Rn
  | 0 => G
  | i + 1 => if o i = 129 then fl o R r0 G i else fun x => if x = kn o i then pv o R r0 i else fl o R r0 G i x

section
variable (o : Nat → Int) (R : Nat → Rn) (r0 : Rn) (G : Nat → Rn) (i : Nat)
theorem rn_run (h : o i = 129) : rn o R r0 (i + 1) = R (jn o i) := by rw [rn, if_pos h]
theorem rn_apart (h : o i = 130) : rn o R r0 (i + 1) = rn o R r0 i := by rw [rn, if_neg (by rw [h]; decide), if_pos h]
theorem rn_len (h : ¬ o i = 129) (h' : ¬ o i = 130) : rn o R r0 (i + 1) = (rn o R r0 i).cut (o i).toNat := by rw [rn, if_neg h, if_neg h']
theorem fl_run (h : o i = 129) : fl o R r0 G (i + 1) = fl o R r0 G i := by rw [fl, if_pos h]
theorem fl_arg (h : ¬ o i = 129) : fl o R r0 G (i + 1) = fun x => if x = kn o i then pv o R r0 i else fl o R r0 G i x := by rw [fl, if_neg h]
theorem pv_apart (h : o i = 130) : pv o R r0 i = R (jn o i) := by rw [pv, if_pos h]
theorem pv_len (h' : ¬ o i = 130) : pv o R r0 i = ⟨(rn o R r0 i).a, (o i).toNat, (o i).toNat⟩ := by rw [pv, if_neg h']
end
/-- the run is as long as the form says -/
theorem rn_left {o : Nat → Int} {R : Nat → Rn} {L : Nat → Nat} {r0 : Rn} {n nr : Nat} (hb : ∀ i, 0 ≤ o i ∧ o i ≤ 255) (hR : ∀ j, j < nr → (R j).len = L j ∧ (R j).len ≤ (R j).cap) (h0 : r0.len = 0) (hok : ∀ i, i < n → okAt o L nr i) :
    ∀ i, i ≤ n → ((rn o R r0 i).len : Int) = left o L i ∧ (rn o R r0 i).len ≤ (rn o R r0 i).cap := by
  intro i
  induction i with
  | zero => intro _; rw [rn, left, h0]; exact ⟨rfl, Nat.zero_le _⟩
  | succ i ih =>
    intro hi
    obtain ⟨e1, e2⟩ := ih (by omega)
    obtain ⟨k1, k2, k3⟩ := hok i (by omega)
    by_cases h : o i = 129
    · rw [rn_run o R r0 i h, left_run o L i h]
      obtain ⟨g1, g2⟩ := hR _ (k1 h)
      exact ⟨by rw [g1], g2⟩
    · by_cases h' : o i = 130
      · rw [rn_apart o R r0 i h', left_apart o L i h']
        exact ⟨e1, e2⟩
      · rw [rn_len o R r0 i h h', left_len o L i h h']
        obtain ⟨_, g⟩ := k3 h h'
        have := hb i
        simp only [Rn.cut]
        omega

theorem grown_trans {w w' w'' : World} {r : Option Nat} (h : w.grownBy w' r) (h' : w'.grownBy w'' r) : w.grownBy w'' r :=
  ⟨h'.os.trans h.os, h'.tape.trans h.tape, h'.output.trans h.output, Nat.le_trans h.size h'.size, fun k hk hr => (h'.block k (Nat.lt_of_lt_of_le hk h.size) hr).trans (h.block k hk hr)⟩
theorem grown_setCell (w : World) (p : Addr) (v : Value) : w.grownBy (w.setCell p v) (some p.block) :=
  ⟨rfl, rfl, rfl, by simp, fun k _ hk => Below.heap_setCell _ _ _ _ (fun e => hk (by rw [e]))⟩

/-- the one block that fill writes: that of args, where it has elements -/
def rowOf (na ba : Nat) : Option Nat := if 0 < na then some ba else none
theorem rowOf_ne {na ba b : Nat} (h : 0 < na → b ≠ ba) : some b ≠ rowOf na ba := by
  unfold rowOf
  by_cases e : 0 < na
  · rw [if_pos e]; intro e'; cases e'; exact h e rfl
  · rw [if_neg e]; simp
theorem rowOf_pos {na ba : Nat} (h : 0 < na) : rowOf na ba = some ba := by unfold rowOf; rw [if_pos h]

set_option maxHeartbeats 2000000 in
theorem fill_any {w : World} {bl : Nat} {ao : Option Addr} {n co : Nat} {o : Nat → Int} {ar : Option Addr} {nr cr : Nat} {R : Nat → Rn} {L : Nat → Nat} {aa : Option Addr} {na ca ba : Nat} {G : Nat → Rn}
    (c0 : w.cell? ⟨bl, 0, none⟩ = some (.slice ao n co)) (c1 : w.cell? ⟨bl, 1, none⟩ = some (.slice ar nr cr)) (h : ByteRow w ao n o)
    (hr : 0 < nr → ∃ b off, ar = some ⟨b, off, none⟩ ∧ (0 < na → b ≠ ba) ∧ ∀ i, i < nr → w.cell? ⟨b, off + i, none⟩ = some (R i).val) (hm : n ≤ 1048576)
    (hR : ∀ j, j < nr → (R j).len = L j ∧ (R j).len ≤ (R j).cap) (hok : ∀ i, i < n → okAt o L nr i) (hkn : kn o n ≤ na) (hna : na ≤ 1048576)
    (hbl : 0 < na → bl ≠ ba) (hao : 0 < n → ∀ b off, ao = some ⟨b, off, none⟩ → 0 < na → b ≠ ba) (haa : 0 < na → aa = some ⟨ba, 0, none⟩ ∧ w.rowIs ba 22 na (fun r => (G r).val)) :
    Calls Try.prog 20 #[.pointer (some ⟨bl, 0, none⟩), .slice aa na ca] w fun e w' => e = .returned (.slice aa na ca) ∧ w.grownBy w' (rowOf na ba) ∧
      (0 < na → w'.rowIs ba 22 na (fun r => (fl o R ⟨some ⟨w.heap.size, 0, none⟩, 0, 0⟩ G n r).val)) := by
  have hblt : bl < w.heap.size := World.block_lt_of_cell? w _ c0
  obtain ⟨r0, hr0⟩ : ∃ r0 : Rn, r0 = ⟨some ⟨w.heap.size, 0, none⟩, 0, 0⟩ := ⟨_, rfl⟩
  have hleft := rn_left (r0 := r0) h.2 hR (by rw [hr0]) hok
  rw [← hr0]
  have HZ : Hid (r0 = ⟨some ⟨w.heap.size, 0, none⟩, 0, 0⟩) := hr0
  clear hr0
  go_enter Try.func20, Try.ntmps20
  go_wp2
  go_loopw [5, 6, 7, 16] (fun r k j x wr => ∃ p : Nat, p ≤ n ∧ x = .int .i64 p ∧ j = .int .i64 (jn o p) ∧ k = .int .i64 (kn o p) ∧ r = .slice (rn o R r0 p).a (rn o R r0 p).len (rn o R r0 p).cap ∧
      (0 < na → wr.rowIs ba 22 na (fun r => (fl o R r0 G p r).val)) ∧ w.grownBy wr (rowOf na ba)) (fun _ _ _ x _ => n - (intOf x).toNat)
  case atStart => exact ⟨0, Nat.zero_le _, rfl, rfl, rfl, by rw [HZ.out]; rfl, fun hp => (haa hp).2.alloc _, World.grownBy_alloc w _ _⟩
  case round =>
    obtain ⟨p, hp, rfl, rfl, rfl, rfl, hrow, hgr⟩ := hrel
    have hle := jn_le o p
    have hle2 := kn_le o p
    have c1w : wr.cell? ⟨bl, 1, none⟩ = some (.slice ar nr cr) := hgr.cell c1 (rowOf_ne hbl)
    by_cases hlt : p < n
    · obtain ⟨b, off, rfl, hb, hcell⟩ := h.at hlt
      have g : wr.cell? ⟨b, off + p, none⟩ = some (.int .u8 (o p)) := hgr.cell (hcell p hlt) (rowOf_ne (hao (by omega) b off rfl))
      have hx := h.2 p
      obtain ⟨k1, k2, k3⟩ := hok p hlt
      obtain ⟨l1, l2⟩ := hleft p hp
      clear hcell
      by_cases e : o p = 129
      · have hj := k1 e
        obtain ⟨b1, off1, rfl, hb1, hc1⟩ := hr (by omega)
        have g1 : wr.cell? ⟨b1, off1 + jn o p, none⟩ = some (.slice (R (jn o p)).a (R (jn o p)).len (R (jn o p)).cap) := hgr.cell (hc1 _ hj) (rowOf_ne hb1)
        have J : Hid (jn o (p + 1) = jn o p + 1) := jn_run o p e
        have K : Hid (kn o (p + 1) = kn o p) := kn_run o p e
        have N : Hid (rn o R r0 (p + 1) = R (jn o p)) := rn_run o R r0 p e
        have F : Hid (fl o R r0 G (p + 1) = fl o R r0 G p) := fl_run o R r0 G p e
        rw [e] at g
        have HRow : Hid (0 < na → wr.rowIs ba 22 na (fun r => (fl o R r0 G (p + 1) r).val)) := by rw [F.out]; exact hrow
        clear hc1 k1 k2 k3 l1 l2 e hx hok hkn haa hao hr hR h hleft hrow F
        go_wp2
        go_roundw
        case rel => exact ⟨p + 1, by omega, by go_num, by rw [J.out]; go_num, by rw [K.out], by rw [N.out], HRow.out, hgr⟩
        case measure => simp [intOf]; omega
      · have hk : kn o p < na := by
          have h1 := kn_mono o (show p + 1 ≤ n by omega)
          rw [kn_arg o p e] at h1
          omega
        obtain ⟨rfl, _⟩ := haa (by omega)
        have hrow := hrow (by omega)
        have f1 := hrow.cell hk
        have f2 := hrow.frozen (kn o p)
        have K : Hid (kn o (p + 1) = kn o p + 1) := kn_arg o p e
        have HS : Hid (∀ v, v = (pv o R r0 p).val → (0 < na → (wr.setCell ⟨ba, kn o p, none⟩ v).rowIs ba 22 na (fun r => (fl o R r0 G (p + 1) r).val))) := fun v hv _ => (hrow.set (kn o p) v).congr (fun r _ => by
          rw [fl_arg o R r0 G p e]
          by_cases er : r = kn o p
          · simp [er, hv]
          · simp [er])
        have HG : Hid (∀ v, w.grownBy (wr.setCell ⟨ba, kn o p, none⟩ v) (rowOf na ba)) := fun v => by
          rw [rowOf_pos (by omega)] at hgr ⊢
          exact grown_trans hgr (grown_setCell wr ⟨ba, kn o p, none⟩ v)
        by_cases e' : o p = 130
        · have hj := k2 e'
          obtain ⟨b1, off1, rfl, hb1, hc1⟩ := hr (by omega)
          have g1 : wr.cell? ⟨b1, off1 + jn o p, none⟩ = some (.slice (R (jn o p)).a (R (jn o p)).len (R (jn o p)).cap) := hgr.cell (hc1 _ hj) (rowOf_ne hb1)
          have J : Hid (jn o (p + 1) = jn o p + 1) := jn_apart o p e'
          have N : Hid (rn o R r0 (p + 1) = rn o R r0 p) := rn_apart o R r0 p e'
          have HP : Hid (Value.slice (R (jn o p)).a (R (jn o p)).len (R (jn o p)).cap = (pv o R r0 p).val) := by rw [pv_apart o R r0 p e']; rfl
          rw [e'] at g
          clear hc1 k1 k2 k3 l1 l2 e e' hx hok hkn haa hao hr hR h hleft hrow
          go_wp2
          go_roundw
          case rel => exact ⟨p + 1, by omega, by go_num, by rw [J.out]; go_num, by rw [K.out]; go_num, by rw [N.out], HS.out _ HP.out, HG.out _⟩
          case measure => simp [intOf]; omega
        · have J : Hid (jn o (p + 1) = jn o p) := jn_len o p e e'
          have N : Hid (rn o R r0 (p + 1) = (rn o R r0 p).cut (o p).toNat) := rn_len o R r0 p e e'
          have HP : Hid (Value.slice (rn o R r0 p).a (o p).toNat (o p).toNat = (pv o R r0 p).val) := by rw [pv_len o R r0 p e']; rfl
          obtain ⟨m1, m2⟩ := k3 e e'
          clear k1 k2 k3 hok hkn haa hao hr hR h hleft hrow
          have m3 : o p ≤ (rn o R r0 p).len := by omega
          clear l1 m2
          revert g hx e e' m1 N HP m3
          generalize o p = x
          intro g hx e e' N HP m1 m3
          have eb : (x == 129) = false := by simpa using e
          have eb' : (x == 130) = false := by simpa using e'
          clear e e'
          obtain ⟨y, rfl⟩ : ∃ y : Nat, x = (y : Int) := ⟨x.toNat, by omega⟩
          simp only [Int.toNat_natCast] at N HP
          go_wp2
          go_roundw
          case rel => exact ⟨p + 1, by omega, by go_num, by rw [J.out], by rw [K.out]; go_num, by rw [N.out]; rfl, HS.out _ HP.out, HG.out _⟩
          case measure => simp [intOf]; omega
    · have ep : p = n := by omega
      subst ep
      have HF : Hid (0 < na → wr.rowIs ba 22 na (fun r => (fl o R r0 G p r).val)) := hrow
      clear h hr hR hok hkn haa hao hleft hrow
      go_wp2
      go_ret
      exact ⟨rfl, hgr, HF.out⟩

/-- the struct that ZZFill lays around the three slices -/
theorem zzfill_any {w : World} {ao : Option Addr} {n co : Nat} {o : Nat → Int} {ar : Option Addr} {nr cr : Nat} {R : Nat → Rn} {L : Nat → Nat} {a2 : Option Addr} {n2 c2 : Nat} {aa : Option Addr} {na ca ba : Nat} {G : Nat → Rn}
    (h : ByteRow w ao n o)
    (hr : 0 < nr → ∃ b off, ar = some ⟨b, off, none⟩ ∧ (0 < na → b ≠ ba) ∧ ∀ i, i < nr → w.cell? ⟨b, off + i, none⟩ = some (R i).val) (hm : n ≤ 1048576)
    (hR : ∀ j, j < nr → (R j).len = L j ∧ (R j).len ≤ (R j).cap) (hok : ∀ i, i < n → okAt o L nr i) (hkn : kn o n ≤ na) (hna : na ≤ 1048576)
    (hao : 0 < n → ∀ b off, ao = some ⟨b, off, none⟩ → 0 < na → b ≠ ba) (haa : 0 < na → aa = some ⟨ba, 0, none⟩ ∧ w.rowIs ba 22 na (fun r => (G r).val)) :
    Calls Try.prog 9 #[.slice ao n co, .slice ar nr cr, .slice a2 n2 c2, .slice aa na ca] w fun e w' => e = .returned (.slice aa na ca) ∧ w.grownBy w' (rowOf na ba) ∧
      (0 < na → w'.rowIs ba 22 na (fun r => (fl o R ⟨some ⟨w.heap.size + 1, 0, none⟩, 0, 0⟩ G n r).val)) := by
  have t : Below w.heap.size w (w.alloc (.cells #[.slice ao n co, .slice ar nr cr, .slice a2 n2 c2] 39)) := (Below.refl _ _).alloc (Nat.le_refl _) _
  have hc := fill_any (w := w.alloc (.cells #[.slice ao n co, .slice ar nr cr, .slice a2 n2 c2] 39)) (bl := w.heap.size) (ca := ca) (ao := ao) (n := n) (co := co) (ar := ar) (nr := nr) (cr := cr) (R := R) (aa := aa) (G := G) (by simp) (by simp) (h.below t)
    (fun hp => by
      obtain ⟨b, off, e, hb, hcell⟩ := hr hp
      exact ⟨b, off, e, hb, fun i hi => (t.cell (p := ⟨b, off + i, none⟩) (World.block_lt_of_cell? w _ (hcell i hi))).trans (hcell i hi)⟩)
    hm hR hok hkn hna (fun hp e => by have := (haa hp).2.lt; omega) hao (fun hp => ⟨(haa hp).1, (haa hp).2.alloc _⟩)
  clear h hr hm hR hok hkn hna hao haa t
  go_enter Try.func9, Try.ntmps9
  go_wp2_with fail
  refine hc.mono ?_
  rintro e w' ⟨rfl, hg, hrow⟩
  have HG : Hid (w.grownBy w' (rowOf na ba)) := grown_trans (World.grownBy_alloc w _ _) hg
  clear hg hc
  have HR : Hid (0 < na → w'.rowIs ba 22 na (fun r => (fl o R ⟨some ⟨w.heap.size + 1, 0, none⟩, 0, 0⟩ G n r).val)) := by
    show 0 < na → _
    simpa using hrow
  clear hrow
  go_wp2
  go_ret
  exact ⟨rfl, HG.out, HR.out⟩

theorem ByteRow.grown {w w' : World} {a : Option Addr} {len : Nat} {o : Nat → Int} {row : Option Nat} (h : ByteRow w a len o) (g : w.grownBy w' row) (hr : 0 < len → ∀ b off, a = some ⟨b, off, none⟩ → some b ≠ row) : ByteRow w' a len o := by
  refine ⟨fun hl => ?_, h.2⟩
  obtain ⟨b, off, e, hc⟩ := h.1 hl
  exact ⟨b, off, e, fun i hi => g.cell (hc i hi) (hr hl b off e)⟩
theorem grown_below {w w' : World} {na ba B : Nat} (g : w.grownBy w' (rowOf na ba)) (hB : B ≤ w.heap.size) (hb : 0 < na → B ≤ ba) : Below B w w' :=
  ⟨g.os, g.tape, g.output, g.size, fun k hk => g.block k (by omega) (rowOf_ne (fun hn e => by have := hb hn; omega))⟩
theorem row_slrow {w : World} {b n : Nat} {G : Nat → Rn} (h : w.rowIs b 22 n (fun r => (G r).val)) : SlRow w (some ⟨b, 0, none⟩) n (fun i => (G i).a) (fun i => (G i).len) (fun i => (G i).cap) :=
  fun _ => ⟨b, 0, rfl, fun i hi => by rw [Nat.zero_add, h.cell hi]; rfl⟩
/-- the form of a list holds of its list cut short, with the slices of room that it takes -/
theorem ok_cut {o : Nat → Int} {L : Nat → Nat} {n nr cut : Nat} (hok : ∀ i, i < n → okAt o L nr i) (hc : cut ≤ n) : ∀ i, i < cut → okAt o L (jn o cut) i := fun i hi => by
  obtain ⟨_, _, h3⟩ := hok i (by omega)
  have hm := jn_mono o (show i + 1 ≤ cut from hi)
  exact ⟨fun e => by rw [jn_run o i e] at hm; omega, fun e => by rw [jn_apart o i e] at hm; omega, h3⟩
theorem jn_room {o : Nat → Int} {L : Nat → Nat} {n nr : Nat} (hok : ∀ i, i < n → okAt o L nr i) : ∀ p, p ≤ n → jn o p ≤ nr := by
  intro p
  induction p with
  | zero => intro _; exact Nat.zero_le _
  | succ p ih =>
    intro hp
    obtain ⟨h1, h2, _⟩ := hok p (by omega)
    by_cases e : o p = 129
    · rw [jn_run o p e]; exact h1 e
    · by_cases e' : o p = 130
      · rw [jn_apart o p e']; exact h2 e'
      · rw [jn_len o p e e']; exact ih (by omega)

/-- A COPY OF A SLICE OF SLICES, said in one way for nil, empty and the rest. -/
theorem CloneS.uniform {B : Nat} {w : World} {a : Option Addr} {len : Nat} {A : Nat → Option Addr} {L : Nat → Nat} {O : Nat → Nat → Int} {e : Ending} (h : CloneS B w a len A L O e) :
    ∃ a' b A', e = .returned (.slice a' len len) ∧ (0 < len → B ≤ b ∧ a' = some ⟨b, 0, none⟩ ∧ w.rowIs b 22 len (fun r => (Rn.mk (A' r) (L r) (L r)).val)) ∧ ∀ r, r < len → ElemOK w b A A' L O r := by
  rcases h with ⟨rfl, rfl, rfl⟩ | ⟨b, A', _, hB, rfl, hrow, hel⟩
  · exact ⟨none, 0, fun _ => none, rfl, fun h => by omega, fun r h => by omega⟩
  · exact ⟨_, b, A', rfl, fun _ => ⟨hB, rfl, hrow⟩, hel⟩

/-! ### two fills of one list: the whole, and up to a cut -/
/-- two slices that sameSlice takes for one -/
def SameRn (r s : Rn) : Prop := r.len = s.len ∧ r.cap = s.cap ∧ (r.a = none ↔ s.a = none) ∧ (0 < r.len → r.a = s.a ∧ ∃ x, r.a = some x)

section
variable {o : Nat → Int} {R : Nat → Rn} {L : Nat → Nat} {n nr : Nat}

theorem rn_two (hb : ∀ i, 0 ≤ o i ∧ o i ≤ 255) (hR : ∀ j, j < nr → (R j).len = L j ∧ (R j).len ≤ (R j).cap) (hok : ∀ i, i < n → okAt o L nr i) (x y : Addr) :
    ∀ i, i ≤ n → rn o R ⟨some x, 0, 0⟩ i = rn o R ⟨some y, 0, 0⟩ i ∨ (rn o R ⟨some x, 0, 0⟩ i = ⟨some x, 0, 0⟩ ∧ rn o R ⟨some y, 0, 0⟩ i = ⟨some y, 0, 0⟩) := by
  intro i
  induction i with
  | zero => intro _; exact .inr ⟨rfl, rfl⟩
  | succ i ih =>
    intro hi
    by_cases h : o i = 129
    · rw [rn_run _ _ _ i h, rn_run _ _ _ i h]; exact .inl rfl
    · by_cases h' : o i = 130
      · rw [rn_apart _ _ _ i h', rn_apart _ _ _ i h']; exact ih (by omega)
      · rw [rn_len _ _ _ i h h', rn_len _ _ _ i h h']
        rcases ih (by omega) with e | ⟨e1, e2⟩
        · rw [e]; exact .inl rfl
        · have hl := (rn_left (r0 := ⟨some x, 0, 0⟩) hb hR rfl hok i (by omega)).1
          rw [e1] at hl
          obtain ⟨_, g⟩ := (hok i (by omega)).2.2 h h'
          have hz : (o i).toNat = 0 := by
            have := hb i
            simp at hl
            omega
          rw [e1, e2, hz]
          exact .inr ⟨rfl, rfl⟩

theorem rn_some (hRa : ∀ j, j < nr → 0 < (R j).len → ∃ x, (R j).a = some x) (hok : ∀ i, i < n → okAt o L nr i) (r0 : Rn) (h0 : r0.len = 0) :
    ∀ i, i ≤ n → 0 < (rn o R r0 i).len → ∃ x, (rn o R r0 i).a = some x := by
  intro i
  induction i with
  | zero => intro _ h; rw [rn, h0] at h; omega
  | succ i ih =>
    intro hi
    by_cases h : o i = 129
    · rw [rn_run _ _ _ i h]; exact hRa _ ((hok i (by omega)).1 h)
    · by_cases h' : o i = 130
      · rw [rn_apart _ _ _ i h']; exact ih (by omega)
      · rw [rn_len _ _ _ i h h']
        intro hl
        simp only [Rn.cut] at hl ⊢
        obtain ⟨y, hy⟩ := ih (by omega) (by omega)
        rw [hy]
        by_cases hc : (rn o R r0 i).cap = (o i).toNat
        · exact ⟨y, by rw [if_pos hc]⟩
        · exact ⟨y.add (o i).toNat, by rw [if_neg hc]; rfl⟩

theorem pv_same (hb : ∀ i, 0 ≤ o i ∧ o i ≤ 255) (hR : ∀ j, j < nr → (R j).len = L j ∧ (R j).len ≤ (R j).cap) (hRa : ∀ j, j < nr → 0 < (R j).len → ∃ x, (R j).a = some x) (hok : ∀ i, i < n → okAt o L nr i) (x y : Addr)
    (i : Nat) (hi : i < n) (h : ¬ o i = 129) : SameRn (pv o R ⟨some x, 0, 0⟩ i) (pv o R ⟨some y, 0, 0⟩ i) := by
  by_cases h' : o i = 130
  · rw [pv_apart _ _ _ i h', pv_apart _ _ _ i h']
    exact ⟨rfl, rfl, Iff.rfl, fun hl => ⟨rfl, hRa _ ((hok i hi).2.1 h') hl⟩⟩
  · rw [pv_len _ _ _ i h', pv_len _ _ _ i h']
    obtain ⟨_, g⟩ := (hok i hi).2.2 h h'
    have hl := (rn_left (r0 := ⟨some x, 0, 0⟩) hb hR rfl hok i (by omega)).1
    have hs := rn_some hRa hok ⟨some x, 0, 0⟩ rfl i (by omega)
    have := hb i
    refine ⟨rfl, rfl, ?_, fun hp => ?_⟩
    · rcases rn_two hb hR hok x y i (by omega) with e | ⟨e1, e2⟩
      · simp only [e]
      · simp only [e1, e2]; simp
    · simp only at hp ⊢
      obtain ⟨z, hz⟩ := hs (by omega)
      refine ⟨?_, z, hz⟩
      rcases rn_two hb hR hok x y i (by omega) with e | ⟨e1, e2⟩
      · rw [e]
      · rw [e1] at hl
        simp at hl
        omega

/-- an argument that stands is not turned by what comes later -/
theorem fl_later (r0 : Rn) (G : Nat → Rn) {p q x : Nat} (hpq : p ≤ q) (hx : x < kn o p) : fl o R r0 G q x = fl o R r0 G p x := by
  induction q with
  | zero => obtain rfl : p = 0 := by omega
            rfl
  | succ q ih =>
    by_cases e : p = q + 1
    · rw [e]
    · have hle := kn_mono o (show p ≤ q by omega)
      by_cases h : o q = 129
      · rw [fl_run _ _ _ _ q h]; exact ih (by omega)
      · rw [fl_arg _ _ _ _ q h]
        simp only [show ¬ x = kn o q by omega, if_false]
        exact ih (by omega)
/-- the element that op i sets -/
theorem fl_at (r0 : Rn) (G : Nat → Rn) {q i : Nat} (hi : i < q) (h : ¬ o i = 129) : fl o R r0 G q (kn o i) = pv o R r0 i := by
  rw [fl_later r0 G (show i + 1 ≤ q from hi) (by rw [kn_arg o i h]; omega), fl_arg _ _ _ _ i h]
  simp
/-- every argument is set by some op -/
theorem kn_inv {p x : Nat} (hx : x < kn o p) : ∃ i, i < p ∧ ¬ o i = 129 ∧ kn o i = x := by
  induction p with
  | zero => rw [kn] at hx; omega
  | succ p ih =>
    by_cases h : o p = 129
    · rw [kn_run o p h] at hx
      obtain ⟨i, h1, h2, h3⟩ := ih hx
      exact ⟨i, by omega, h2, h3⟩
    · rw [kn_arg o p h] at hx
      by_cases e : x = kn o p
      · exact ⟨p, by omega, h, e.symm⟩
      · obtain ⟨i, h1, h2, h3⟩ := ih (by omega)
        exact ⟨i, by omega, h2, h3⟩
/-- beyond the arguments nothing turns -/
theorem fl_beyond (r0 : Rn) (G : Nat → Rn) {p x : Nat} (hx : kn o p ≤ x) : fl o R r0 G p x = G x := by
  induction p with
  | zero => rfl
  | succ p ih =>
    by_cases h : o p = 129
    · rw [kn_run o p h] at hx
      rw [fl_run _ _ _ _ p h]; exact ih hx
    · rw [kn_arg o p h] at hx
      rw [fl_arg _ _ _ _ p h]
      simp only [show ¬ x = kn o p by omega, if_false]
      exact ih (by omega)

theorem fl_same (hb : ∀ i, 0 ≤ o i ∧ o i ≤ 255) (hR : ∀ j, j < nr → (R j).len = L j ∧ (R j).len ≤ (R j).cap) (hRa : ∀ j, j < nr → 0 < (R j).len → ∃ x, (R j).a = some x) (hok : ∀ i, i < n → okAt o L nr i) (x y : Addr)
    (G G' : Nat → Rn) {p : Nat} (hp : p ≤ n) {z : Nat} (hz : z < kn o p) : SameRn (fl o R ⟨some x, 0, 0⟩ G n z) (fl o R ⟨some y, 0, 0⟩ G' p z) := by
  obtain ⟨i, hi, h, rfl⟩ := kn_inv hz
  rw [fl_at _ _ (show i < n by omega) h, fl_at _ _ hi h]
  exact pv_same hb hR hRa hok x y i (by omega) h

theorem sl_congr {L L' : Nat → Nat} {k : Nat} (h : ∀ i, i < k → L i = L' i) : sl L k = sl L' k := by
  induction k with
  | zero => rfl
  | succ k ih => rw [sl, sl, ih (fun i hi => h i (by omega)), h k (by omega)]

theorem fl_sum (hR : ∀ j, j < nr → (R j).len = L j ∧ (R j).len ≤ (R j).cap) (hok : ∀ i, i < n → okAt o L nr i) (r0 : Rn) (G : Nat → Rn) : ∀ p, p ≤ n → sl (fun i => (fl o R r0 G p i).len) (kn o p) = ab o L p := by
  intro p
  induction p with
  | zero => intro _; rfl
  | succ p ih =>
    intro hp
    have ih := ih (by omega)
    by_cases h : o p = 129
    · rw [kn_run o p h, ab_run o L p h, fl_run _ _ _ _ p h]; exact ih
    · rw [kn_arg o p h, sl, sl_congr (L' := fun i => (fl o R r0 G p i).len) (fun i hi => by
        rw [fl_arg _ _ _ _ p h]
        simp only [show ¬ i = kn o p by omega, if_false]), ih, fl_arg _ _ _ _ p h]
      simp only [if_true]
      by_cases h' : o p = 130
      · rw [pv_apart _ _ _ p h', ab_apart o L p h', (hR _ ((hok p (by omega)).2.1 h')).1]
      · rw [pv_len _ _ _ p h', ab_len o L p h h']
theorem fl_len_le (hb : ∀ i, 0 ≤ o i ∧ o i ≤ 255) (hR : ∀ j, j < nr → (R j).len = L j ∧ (R j).len ≤ (R j).cap) (hL : ∀ j, j < nr → L j ≤ 1048576) (hok : ∀ i, i < n → okAt o L nr i) (r0 : Rn) (G : Nat → Rn) {p : Nat} (hp : p ≤ n) {z : Nat} (hz : z < kn o p) :
    (fl o R r0 G p z).len ≤ 1048576 := by
  obtain ⟨i, hi, h, rfl⟩ := kn_inv hz
  rw [fl_at _ _ hi h]
  by_cases h' : o i = 130
  · rw [pv_apart _ _ _ i h']
    have hj := (hok i (by omega)).2.1 h'
    rw [(hR _ hj).1]
    exact hL _ hj
  · rw [pv_len _ _ _ i h']
    have := hb i
    show (o i).toNat ≤ 1048576
    omega
end
end Go.Proofs.Qxb6627947a
