/-
  The plain part: what the counts over ops are. No Go in sight.
-/
namespace Go.Proofs.Qxb6627947a

/-- how many of the first i ops take a slice of room -/
def jn (o : Nat → Int) : Nat → Nat
  | 0 => 0
  | i + 1 => if o i = 129 ∨ o i = 130 then jn o i + 1 else jn o i
/-- how many of the first i ops are arguments -/
def kn (o : Nat → Int) : Nat → Nat
  | 0 => 0
  | i + 1 => if o i = 129 then kn o i else kn o i + 1
/-- what is left of the run ahead of op i -/
def left (o : Nat → Int) (L : Nat → Nat) : Nat → Int
  | 0 => 0
  | i + 1 => if o i = 129 then (L (jn o i) : Int) else if o i = 130 then left o L i else left o L i - o i
/-- the lengths of the arguments of the first i ops, together -/
def ab (o : Nat → Int) (L : Nat → Nat) : Nat → Nat
  | 0 => 0
  | i + 1 => if o i = 129 then ab o L i else if o i = 130 then ab o L i + L (jn o i) else ab o L i + (o i).toNat
/-- the first n lengths together -/
def sl (L : Nat → Nat) : Nat → Nat
  | 0 => 0
  | i + 1 => sl L i + L i
def okAt (o : Nat → Int) (L : Nat → Nat) (nr : Nat) (i : Nat) : Prop :=
  (o i = 129 → jn o i < nr) ∧ (o i = 130 → jn o i < nr) ∧ (¬ o i = 129 → ¬ o i = 130 → o i ≤ 128 ∧ o i ≤ left o L i)

section
variable (o : Nat → Int) (L : Nat → Nat) (i : Nat)
theorem jn_run (h : o i = 129) : jn o (i + 1) = jn o i + 1 := by rw [jn, if_pos (.inl h)]
theorem jn_apart (h : o i = 130) : jn o (i + 1) = jn o i + 1 := by rw [jn, if_pos (.inr h)]
theorem jn_len (h : ¬ o i = 129) (h' : ¬ o i = 130) : jn o (i + 1) = jn o i := by rw [jn, if_neg (fun e => e.elim h h')]
theorem kn_run (h : o i = 129) : kn o (i + 1) = kn o i := by rw [kn, if_pos h]
theorem kn_arg (h : ¬ o i = 129) : kn o (i + 1) = kn o i + 1 := by rw [kn, if_neg h]
theorem left_run (h : o i = 129) : left o L (i + 1) = (L (jn o i) : Int) := by rw [left, if_pos h]
theorem left_apart (h : o i = 130) : left o L (i + 1) = left o L i := by rw [left, if_neg (by rw [h]; decide), if_pos h]
theorem left_len (h : ¬ o i = 129) (h' : ¬ o i = 130) : left o L (i + 1) = left o L i - o i := by rw [left, if_neg h, if_neg h']
theorem ab_run (h : o i = 129) : ab o L (i + 1) = ab o L i := by rw [ab, if_pos h]
theorem ab_apart (h : o i = 130) : ab o L (i + 1) = ab o L i + L (jn o i) := by rw [ab, if_neg (by rw [h]; decide), if_pos h]
theorem ab_len (h : ¬ o i = 129) (h' : ¬ o i = 130) : ab o L (i + 1) = ab o L i + (o i).toNat := by rw [ab, if_neg h, if_neg h']
theorem jn_le : jn o i ≤ i := by
  induction i with
  | zero => exact Nat.le_refl _
  | succ i ih => rw [jn]; split <;> omega
theorem kn_le : kn o i ≤ i := by
  induction i with
  | zero => exact Nat.le_refl _
  | succ i ih => rw [kn]; split <;> omega
theorem kn_mono {i i' : Nat} (h : i ≤ i') : kn o i ≤ kn o i' := by
  induction i' with
  | zero => obtain rfl : i = 0 := by omega
            exact Nat.le_refl _
  | succ m ih =>
    by_cases e : i = m + 1
    · rw [e]; exact Nat.le_refl _
    · refine Nat.le_trans (ih (by omega)) ?_
      rw [kn]; split <;> omega
theorem jn_mono {i i' : Nat} (h : i ≤ i') : jn o i ≤ jn o i' := by
  induction i' with
  | zero => obtain rfl : i = 0 := by omega
            exact Nat.le_refl _
  | succ m ih =>
    by_cases e : i = m + 1
    · rw [e]; exact Nat.le_refl _
    · refine Nat.le_trans (ih (by omega)) ?_
      rw [jn]; split <;> omega
theorem ab_le {n nr M : Nat} (hb : ∀ i, 0 ≤ o i ∧ o i ≤ 255) (hok : ∀ i, i < n → okAt o L nr i) (hL : ∀ j, j < nr → L j ≤ M) (hM : 255 ≤ M) (hi : i ≤ n) : ab o L i ≤ i * M := by
  induction i with
  | zero => exact Nat.zero_le _
  | succ i ih =>
    have ih := ih (by omega)
    have hs : (i + 1) * M = i * M + M := by rw [Nat.add_mul, Nat.one_mul]
    obtain ⟨_, h2, _⟩ := hok i (by omega)
    by_cases h : o i = 129
    · rw [ab_run o L i h]; omega
    · by_cases h' : o i = 130
      · rw [ab_apart o L i h']
        have := hL _ (h2 h')
        omega
      · rw [ab_len o L i h h']
        have := hb i
        omega
theorem sl_le {n M : Nat} (hL : ∀ j, j < n → L j ≤ M) (hi : i ≤ n) : sl L i ≤ i * M := by
  induction i with
  | zero => exact Nat.zero_le _
  | succ i ih =>
    have ih := ih (by omega)
    have := hL i (by omega)
    have hs : (i + 1) * M = i * M + M := by rw [Nat.add_mul, Nat.one_mul]
    rw [sl]; omega
end
end Go.Proofs.Qxb6627947a
