import Derived.Test.Qxb6002705aClear
/- The bits of the cleared matrix. -/
namespace Go.Proofs.Qxb6002705a
open Go.RowKit

theorem and_u64 (x y : Int) (hx : 0 ≤ x ∧ x ≤ ones) (hy : 0 ≤ y ∧ y ≤ ones) : bits .and .u64 x y = ((x.toNat &&& y.toNat : Nat) : Int) := by
  unfold ones at hx hy
  exact u64_and x y hx.1 (by omega) hy.1 (by omega)

theorem and_bd (x y : Int) (hx : 0 ≤ x ∧ x ≤ ones) (hy : 0 ≤ y ∧ y ≤ ones) : 0 ≤ bits .and .u64 x y ∧ bits .and .u64 x y ≤ ones := by
  rw [and_u64 x y hx hy]
  have : x.toNat &&& y.toNat ≤ x.toNat := Nat.and_le_left
  omega

theorem mask_bd (s j : Nat) : 0 ≤ maskW s j ∧ maskW s j ≤ ones := by
  unfold maskW ones
  obtain ⟨h1, h2⟩ := pow_bd (s % 64) (by omega)
  split <;> omega

theorem mask_bit (s r : Nat) : (maskW s (r / 64)).toNat.testBit (r % 64) = decide (r = s) := by
  unfold maskW
  by_cases h : s / 64 = r / 64
  · rw [if_pos h]
    have e : ((2 : Int) ^ (s % 64)).toNat = 2 ^ (s % 64) := by
      have h3 : ((2 ^ (s % 64) : Nat) : Int) = (2 : Int) ^ (s % 64) := by simp
      rw [← h3]
      exact Int.toNat_natCast _
    rw [e, Nat.testBit_two_pow, decide_eq_decide]
    omega
  · rw [if_neg h]
    have : ¬ r = s := by omega
    simp [this]

/-- The word i of the matrix behind Relevant. -/
def known (n s W i : Nat) : Int := clr (fun q => word n (q % W)) s (s * W) W i

theorem known_bd (n s W i : Nat) : 0 ≤ known n s W i ∧ known n s W i ≤ ones := by
  unfold known clr
  split
  · exact and_bd _ _ (word_bd _ _) (mask_bd _ _)
  · exact word_bd _ _

theorem known_bit (n s c r : Nat) (hs : s < n) (hr : r < 64 * cd n) : (known n s (cd n) (c * cd n + r / 64)).toNat.testBit (r % 64) = decide (r < n ∧ (¬ c = s ∨ r = s)) := by
  have hr2 : r / 64 < cd n := by omega
  unfold known clr
  by_cases hcs : c = s
  · subst hcs
    rw [if_pos (by omega)]
    dsimp only
    rw [idx_mod c (cd n) (r / 64) hr2, show c * cd n + r / 64 - c * cd n = r / 64 by omega, and_u64 _ _ (word_bd _ _) (mask_bd _ _), Int.toNat_natCast, Nat.testBit_and, word_bit n r hr, mask_bit]
    by_cases hrc : r = c
    · simp [hrc]
    · simp [hrc]
  · rw [if_neg]
    · dsimp only
      rw [idx_mod c (cd n) (r / 64) hr2, word_bit n r hr]
      simp [hcs]
    · intro ⟨h1, h2⟩
      rcases Nat.lt_or_ge c s with h | h
      · have := Nat.mul_le_mul_right (cd n) (show c + 1 ≤ s by omega)
        rw [Nat.succ_mul] at this
        omega
      · have := Nat.mul_le_mul_right (cd n) (show s + 1 ≤ c by omega)
        rw [Nat.succ_mul] at this
        omega
end Go.Proofs.Qxb6002705a
