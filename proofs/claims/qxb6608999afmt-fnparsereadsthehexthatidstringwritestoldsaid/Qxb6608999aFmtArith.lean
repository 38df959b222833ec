/-
  Words of a shifted number. No Go here.
-/
namespace Go.Proofs.Qxb6608999aFmt

/-- The words, shifted up by r. -/
def upW (r x y : Nat) : Nat := x * 2 ^ r % 18446744073709551616 + y / 2 ^ (64 - r)

theorem pow_split (r : Nat) (hr : r ≤ 64) : 2 ^ r * 2 ^ (64 - r) = 18446744073709551616 := by
  rw [← Nat.pow_add, show r + (64 - r) = 64 from by omega]

/-- x times 2^r, cut to a word, is a multiple of 2^r. -/
theorem cut_mul (x r : Nat) (hr : r ≤ 64) : x * 2 ^ r % 18446744073709551616 = x % 2 ^ (64 - r) * 2 ^ r := by
  rw [← pow_split r hr, Nat.mul_comm (2 ^ r), Nat.mul_mod_mul_right]

theorem upW_lt (r x y : Nat) (hr : r ≤ 64) (hy : y < 18446744073709551616) : upW r x y < 18446744073709551616 := by
  unfold upW
  rw [cut_mul x r hr]
  have h1 : x % 2 ^ (64 - r) < 2 ^ (64 - r) := Nat.mod_lt _ (Nat.two_pow_pos _)
  have h2 : y / 2 ^ (64 - r) < 2 ^ r := by
    rw [Nat.div_lt_iff_lt_mul (Nat.two_pow_pos _), pow_split r hr]
    exact hy
  have h3 : (x % 2 ^ (64 - r) + 1) * 2 ^ r ≤ 2 ^ (64 - r) * 2 ^ r := Nat.mul_le_mul_right _ h1
  rw [Nat.mul_comm (2 ^ (64 - r)), pow_split r hr, Nat.add_mul] at h3
  omega

theorem upW_or (r x y : Nat) (hr : r ≤ 64) (hy : y < 18446744073709551616) : (x * 2 ^ r % 18446744073709551616) ||| (y / 2 ^ (64 - r)) = upW r x y := by
  unfold upW
  rw [cut_mul x r hr, Nat.mul_comm]
  have h2 : y / 2 ^ (64 - r) < 2 ^ r := by
    rw [Nat.div_lt_iff_lt_mul (Nat.two_pow_pos _), pow_split r hr]
    exact hy
  rw [Nat.two_pow_add_eq_or_of_lt h2]

theorem word_up (T r t : Nat) (hr : r ≤ 64) : T * 2 ^ r / 18446744073709551616 ^ (t + 1) % 18446744073709551616 = upW r (T / 18446744073709551616 ^ (t + 1) % 18446744073709551616) (T / 18446744073709551616 ^ t % 18446744073709551616) := by
  obtain ⟨W, hW⟩ : ∃ W, (18446744073709551616 : Nat) = W := ⟨_, rfl⟩
  have hp := pow_split r hr
  have hy : T / W ^ t % W < 18446744073709551616 := by rw [← hW]; exact Nat.mod_lt _ (by decide)
  have hWpos : 0 < W := by rw [← hW]; decide
  have hlt := upW_lt r (T / W ^ (t + 1) % W) (T / W ^ t % W) hr hy
  rw [hW] at hp hlt ⊢
  have hPt : 0 < W ^ t := Nat.pow_pos hWpos
  -- T = (q W + y) W^t + ρ
  obtain ⟨q, hq⟩ : ∃ q, T / W ^ (t + 1) = q := ⟨_, rfl⟩
  obtain ⟨y, hy2⟩ : ∃ y, T / W ^ t % W = y := ⟨_, rfl⟩
  have e1 : T / W ^ t = q * W + y := by
    have := Nat.div_add_mod (T / W ^ t) W
    rw [Nat.div_div_eq_div_mul, ← Nat.pow_succ, hq, hy2, Nat.mul_comm] at this
    exact this.symm
  rw [hq, hy2] at hlt ⊢
  -- divide by W^t first
  have e2 : T * 2 ^ r / W ^ (t + 1) = q * 2 ^ r + y / 2 ^ (64 - r) := by
    have s1 : W ^ (t + 1) = 2 ^ r * (2 ^ (64 - r) * W ^ t) := by
      rw [Nat.pow_succ, Nat.mul_comm (W ^ t) W, ← Nat.mul_assoc, hp]
    rw [s1, ← Nat.div_div_eq_div_mul, Nat.mul_div_cancel _ (Nat.two_pow_pos r), Nat.mul_comm (2 ^ (64 - r)), ← Nat.div_div_eq_div_mul, e1]
    have s2 : q * W = q * 2 ^ r * 2 ^ (64 - r) := by rw [Nat.mul_assoc, hp]
    rw [s2, Nat.add_comm, Nat.add_mul_div_right _ _ (Nat.two_pow_pos _), Nat.add_comm]
  rw [e2]
  unfold upW at hlt ⊢
  rw [hW] at hlt ⊢
  have e3 : q % W * 2 ^ r % W = q * 2 ^ r % W := by rw [Nat.mod_mul_mod]
  rw [e3] at hlt ⊢
  rw [Nat.add_mod, Nat.mod_eq_of_lt (Nat.lt_of_le_of_lt (Nat.le_add_left _ _) hlt), Nat.mod_eq_of_lt hlt]

theorem word_up0 (T r : Nat) : T * 2 ^ r % 18446744073709551616 = upW r (T % 18446744073709551616) 0 := by
  unfold upW
  rw [Nat.zero_div, Nat.add_zero, Nat.mod_mul_mod]

end Go.Proofs.Qxb6608999aFmt
