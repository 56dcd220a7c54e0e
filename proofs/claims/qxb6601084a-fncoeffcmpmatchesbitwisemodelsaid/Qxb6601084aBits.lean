namespace Go.Proofs.Qxb6601084a.Bits

/-- Bit i of the number c. -/
def bitAt (c i : Nat) : Nat := c / 2 ^ i % 2

theorem bitAt_hi (hi lo i : Nat) (h : 64 ≤ i) (hlo : lo < 2 ^ 64) : hi / 2 ^ (i - 64) % 2 = bitAt (hi * 2 ^ 64 + lo) i := by
  unfold bitAt
  have e : 2 ^ i = 2 ^ 64 * 2 ^ (i - 64) := by rw [← Nat.pow_add]; congr 1; omega
  rw [e, ← Nat.div_div_eq_div_mul]
  have : (hi * 2 ^ 64 + lo) / 2 ^ 64 = hi := by omega
  rw [this]

theorem bitAt_lo (hi lo i : Nat) (h : i < 64) : lo / 2 ^ i % 2 = bitAt (hi * 2 ^ 64 + lo) i := by
  unfold bitAt
  have e : 2 ^ 64 = 2 ^ i * (2 * 2 ^ (63 - i)) := by
    rw [← Nat.mul_assoc, ← Nat.pow_succ, ← Nat.pow_add]; congr 1; omega
  have e2 : hi * 2 ^ 64 + lo = lo + 2 ^ i * (2 * 2 ^ (63 - i) * hi) := by
    rw [e, Nat.add_comm]; congr 1; rw [Nat.mul_comm, Nat.mul_assoc]
  rw [e2, Nat.add_mul_div_left _ _ (Nat.pow_pos (by omega))]
  rw [Nat.mul_assoc, Nat.add_mul_mod_self_left]

theorem bitAt_le (c i : Nat) : bitAt c i ≤ 1 := by unfold bitAt; omega

theorem split (c i : Nat) : c / 2 ^ i = 2 * (c / 2 ^ (i + 1)) + bitAt c i := by
  unfold bitAt
  rw [Nat.pow_succ, ← Nat.div_div_eq_div_mul]; omega

/-- The upper bits agree and this one too: one bit more agrees. -/
theorem step (c x i : Nat) (h : c / 2 ^ (i + 1) = x / 2 ^ (i + 1)) (hb : bitAt c i = bitAt x i) : c / 2 ^ i = x / 2 ^ i := by
  rw [split c, split x, h, hb]

theorem lt_of_div (c x m : Nat) (h : c / m < x / m) : c < x := by
  rcases Nat.lt_or_ge c x with h1 | h1
  · exact h1
  · exact absurd (Nat.div_le_div_right (c := m) h1) (by omega)

/-- The first bit that parts decides. -/
theorem decides (c x i : Nat) (h : c / 2 ^ (i + 1) = x / 2 ^ (i + 1)) (h0 : bitAt c i = 0) (hb : bitAt x i ≠ 0) : c < x := by
  refine lt_of_div c x (2 ^ i) ?_
  rw [split c, split x, h, h0]; omega

theorem top (c : Nat) (h : c < 2 ^ 128) : c / 2 ^ 128 = 0 := Nat.div_eq_of_lt h
end Go.Proofs.Qxb6601084a.Bits
