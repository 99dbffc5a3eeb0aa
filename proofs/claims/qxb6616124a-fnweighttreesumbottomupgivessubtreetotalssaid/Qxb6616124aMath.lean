/-
  DERIVED (proof work on the seat Qxb6616124a). THE PLAIN LAW: sums over a range of leaves, worked out from the lowest node up.
-/
namespace Go.Proofs.Qxb6616124a.Mt

/-- The sum of f over lo, lo + 1, .. (n terms). -/
def rs (f : Nat → Nat) (lo : Nat) : Nat → Nat
  | 0 => 0
  | n + 1 => rs f lo n + f (lo + n)

theorem rs_add (f : Nat → Nat) (lo a : Nat) : ∀ b, rs f lo (a + b) = rs f lo a + rs f (lo + a) b
  | 0 => rfl
  | b + 1 => by
    show rs f lo (a + b) + f (lo + (a + b)) = rs f lo a + (rs f (lo + a) b + f (lo + a + b))
    rw [rs_add f lo a b, Nat.add_assoc lo a b]; omega

theorem rs_le (f : Nat → Nat) (C lo : Nat) (h : ∀ k, f k ≤ C) : ∀ n, rs f lo n ≤ n * C
  | 0 => by simp [rs]
  | n + 1 => by
    have := rs_le f C lo h n
    have h2 := h (lo + n)
    show rs f lo n + f (lo + n) ≤ (n + 1) * C
    rw [Nat.add_mul, Nat.one_mul]; omega

/-- What node j shall hold, of 2 ^ p leaves: the sum over the leaves below it. -/
def tot (p : Nat) (f : Nat → Nat) (j : Nat) : Nat := rs f (j * 2 ^ (p - j.log2)) (2 ^ (p - j.log2))

theorem tot_leaf (p : Nat) (f : Nat → Nat) (j : Nat) (h0 : 2 ^ p ≤ j) (h1 : j < 2 ^ (p + 1)) : tot p f j = f j := by
  have hne : j ≠ 0 := by have := Nat.two_pow_pos p; omega
  have hl : j.log2 = p := (Nat.log2_eq_iff hne).2 ⟨h0, h1⟩
  unfold tot
  rw [hl, Nat.sub_self, Nat.pow_zero, Nat.mul_one]
  simp [rs]

theorem log2_lt_of (p j : Nat) (hj : 0 < j) (h : j < 2 ^ p) : j.log2 < p := (Nat.log2_lt (by omega)).2 h

theorem log2_even (j : Nat) (hj : 0 < j) : (2 * j).log2 = j.log2 + 1 := by
  have h := (Nat.log2_eq_iff (n := j) (by omega)).1 rfl
  refine (Nat.log2_eq_iff (by omega)).2 ⟨?_, ?_⟩
  · rw [Nat.pow_succ]; omega
  · rw [Nat.pow_succ]; omega

theorem log2_odd (j : Nat) (hj : 0 < j) : (2 * j + 1).log2 = j.log2 + 1 := by
  have h := (Nat.log2_eq_iff (n := j) (by omega)).1 rfl
  refine (Nat.log2_eq_iff (by omega)).2 ⟨?_, ?_⟩
  · rw [Nat.pow_succ]; omega
  · rw [Nat.pow_succ]; omega

theorem tot_step (p : Nat) (f : Nat → Nat) (j : Nat) (hj : 0 < j) (h : j < 2 ^ p) : tot p f j = tot p f (2 * j) + tot p f (2 * j + 1) := by
  have hl := log2_lt_of p j hj h
  unfold tot
  rw [log2_even j hj, log2_odd j hj]
  obtain ⟨d, hd⟩ : ∃ d, p - (j.log2 + 1) = d := ⟨_, rfl⟩
  rw [hd, show p - j.log2 = d + 1 by omega]
  have e1 : j * 2 ^ (d + 1) = 2 * j * 2 ^ d := by rw [Nat.pow_succ, Nat.mul_comm (2 ^ d) 2, ← Nat.mul_assoc, Nat.mul_comm j 2]
  have e2 : (2 * j + 1) * 2 ^ d = 2 * j * 2 ^ d + 2 ^ d := by rw [Nat.add_mul, Nat.one_mul]
  have e3 : 2 ^ (d + 1) = 2 ^ d + 2 ^ d := by rw [Nat.pow_succ]; omega
  rw [e1, e2, e3, rs_add]

theorem tot_le (p : Nat) (f : Nat → Nat) (C j : Nat) (h : ∀ k, f k ≤ C) : tot p f j ≤ 2 ^ p * C := by
  refine Nat.le_trans (rs_le f C _ h _) (Nat.mul_le_mul_right _ (Nat.pow_le_pow_right (by omega) (Nat.sub_le _ _)))

/-- The way down from i to the leaves is that long. -/
theorem depth_eq (p i d : Nat) (hi : 0 < i) (h0 : 2 ^ p ≤ i * 2 ^ d) (h1 : i * 2 ^ d < 2 ^ (p + 1)) : d = p - i.log2 := by
  have h := (Nat.log2_eq_iff (n := i) (by omega)).1 rfl
  have a1 : 2 ^ (i.log2 + d) ≤ i * 2 ^ d := by rw [Nat.pow_add]; exact Nat.mul_le_mul_right _ h.1
  have a2 : i * 2 ^ d < 2 ^ (i.log2 + 1 + d) := by rw [Nat.pow_add]; exact Nat.mul_lt_mul_of_pos_right h.2 (Nat.two_pow_pos d)
  have b1 : i.log2 + d < p + 1 := (Nat.pow_lt_pow_iff_right (by omega : 1 < 2)).1 (Nat.lt_of_le_of_lt a1 h1)
  have b2 : p < i.log2 + 1 + d := (Nat.pow_lt_pow_iff_right (by omega : 1 < 2)).1 (Nat.lt_of_le_of_lt h0 a2)
  omega

end Go.Proofs.Qxb6616124a.Mt
