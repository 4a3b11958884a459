import Derived.WalkKit
import Derived.Laws.BitsAllLaws
namespace Go.Proofs.Qxb6002705a
open Go.RowKit

/-- Words of a column. -/
def cd (n : Nat) : Nat := n / 64 + min (n % 64) 1
theorem cd_le (n : Nat) : 64 * cd n ≤ n + 63 ∧ n ≤ 64 * cd n := by unfold cd; omega

/-- A word with every bit set; the word j of a column of a matrix of n rows. -/
def ones : Int := 18446744073709551615
def word (n j : Nat) : Int := if n % 64 ≠ 0 ∧ j + 1 = cd n then 2 ^ (n % 64) - 1 else ones

/-- The content behind k rounds of the first loop, and behind c rounds of the second. -/
def fillK (k : Nat) (j : Nat) : Value := if j < k then .int .u64 ones else .int .u64 0
def fill2 (n W c : Nat) (j : Nat) : Value := .int .u64 (if j / W < c then word n (j % W) else ones)

theorem pow_bd (m : Nat) (h : m < 64) : (1 : Int) ≤ 2 ^ m ∧ (2 : Int) ^ m ≤ 9223372036854775808 := by
  have h1 : (2 : Nat) ^ m ≤ 2 ^ 63 := Nat.pow_le_pow_right (by omega) (by omega)
  have h2 : 1 ≤ (2 : Nat) ^ m := Nat.one_le_two_pow
  have h3 : ((2 ^ m : Nat) : Int) = (2 : Int) ^ m := by simp
  rw [← h3]
  constructor
  · omega
  · have : ((2 : Nat) ^ 63) = 9223372036854775808 := by decide
    omega

theorem lastword (n : Nat) : IntKind.u64.wrap (IntKind.u64.wrap (2 ^ (n % 64)) - 1) = 2 ^ (n % 64) - 1 := by
  obtain ⟨h1, h2⟩ := pow_bd (n % 64) (by omega)
  have h3 : IntKind.u64.wrap (2 ^ (n % 64)) = 2 ^ (n % 64) := by rw [IntKind.wrap_u64]; omega
  rw [h3, IntKind.wrap_u64]
  omega

theorem fillK_step (k : Nat) (j : Nat) : (if j = k then Value.int .u64 18446744073709551615 else fillK k j) = fillK (k + 1) j := by
  unfold fillK
  by_cases h : j = k
  · rw [if_pos h, if_pos (by omega)]; rfl
  · rw [if_neg h]
    by_cases h2 : j < k
    · rw [if_pos h2, if_pos (by omega)]
    · rw [if_neg h2, if_neg (by omega)]

theorem fill2_zero (n W L : Nat) (j : Nat) (h : j < L) : fillK L j = fill2 n W 0 j := by
  unfold fillK fill2
  rw [if_pos h, if_neg (Nat.not_lt_zero _)]

theorem fill2_step (n W c : Nat) (hW : cd n = W) (hz : ¬ n % 64 = 0) (j : Nat) :
    (if j = c * W + (W - 1) then Value.int .u64 (2 ^ (n % 64) - 1) else fill2 n W c j) = fill2 n W (c + 1) j := by
  have hW1 : 1 ≤ W := by rw [← hW]; unfold cd; omega
  have hd := Nat.div_add_mod j W
  have hm := Nat.mod_lt j (show 0 < W by omega)
  have hcm : c * W = W * c := Nat.mul_comm _ _
  unfold fill2
  by_cases h : j = c * W + (W - 1)
  · have q : j / W = c := by
      rw [h, hcm, Nat.mul_add_div (by omega)]
      have : (W - 1) / W = 0 := Nat.div_eq_of_lt (by omega)
      omega
    have r : j % W = W - 1 := by
      rw [h, hcm, Nat.mul_add_mod]
      exact Nat.mod_eq_of_lt (by omega)
    rw [if_pos h, if_pos (by omega), r]
    unfold word
    rw [if_pos ⟨hz, by omega⟩]
  · rw [if_neg h]
    by_cases h2 : j / W < c
    · rw [if_pos h2, if_pos (by omega)]
    · rw [if_neg h2]
      by_cases h3 : j / W = c
      · have r : ¬ j % W = W - 1 := by
          intro hr
          rw [h3, hr] at hd
          omega
        rw [if_pos (by omega)]
        unfold word
        rw [if_neg (by omega)]
      · rw [if_neg (by omega)]

theorem fill2_end (n W L : Nat) (hL : n * W = L) (j : Nat) (h : j < L) : fill2 n W n j = .int .u64 (word n (j % W)) := by
  unfold fill2
  rw [if_pos]
  exact Nat.div_lt_of_lt_mul (by rw [Nat.mul_comm]; omega)

theorem fill2_even (n W : Nat) (hz : n % 64 = 0) (j : Nat) : fill2 n W 0 j = .int .u64 (word n (j % W)) := by
  unfold fill2 word
  rw [if_neg (Nat.not_lt_zero _), if_neg (by omega)]

/-! ### Bits -/
theorem bit_of (x : Int) (m : Nat) (h0 : 0 ≤ x) (h1 : x ≤ ones) : (bits .and .u64 (x / 2 ^ m) 1 == 1) = x.toNat.testBit m := by
  unfold ones at h1
  obtain ⟨k, rfl⟩ : ∃ k : Nat, x = (k : Int) := ⟨x.toNat, by omega⟩
  have e : (k : Int) / 2 ^ m = ((k / 2 ^ m : Nat) : Int) := by simp
  have hle : k / 2 ^ m ≤ k := Nat.div_le_self _ _
  have := u64_and_nat (k / 2 ^ m) 1 (by omega) (by omega)
  simp only [Int.natCast_one] at this
  rw [e, this, nat_mask1, Int.toNat_natCast, Nat.testBit_eq_decide_div_mod_eq]
  by_cases h : k / 2 ^ m % 2 = 1
  · simp [h]
  · have : k / 2 ^ m % 2 = 0 := by omega
    simp [this]

theorem ones_nat : ones.toNat = 2 ^ 64 - 1 := by unfold ones; decide

theorem word_bd (n j : Nat) : 0 ≤ word n j ∧ word n j ≤ ones := by
  unfold word
  split
  · obtain ⟨h1, h2⟩ := pow_bd (n % 64) (by omega)
    unfold ones
    omega
  · unfold ones; omega

theorem word_bit (n r : Nat) (h : r < 64 * cd n) : (word n (r / 64)).toNat.testBit (r % 64) = decide (r < n) := by
  unfold cd at h
  unfold word
  by_cases c1 : n % 64 ≠ 0 ∧ r / 64 + 1 = cd n
  · rw [if_pos c1]
    have e : ((2 : Int) ^ (n % 64) - 1).toNat = 2 ^ (n % 64) - 1 := by
      have h3 : ((2 ^ (n % 64) : Nat) : Int) = (2 : Int) ^ (n % 64) := by simp
      rw [← h3]
      omega
    rw [e, Nat.testBit_two_pow_sub_one]
    unfold cd at c1
    rw [decide_eq_decide]
    omega
  · rw [if_neg c1, ones_nat, Nat.testBit_two_pow_sub_one]
    unfold cd at c1
    rw [decide_eq_decide]
    omega

theorem idx_mod (c W j : Nat) (h : j < W) : (c * W + j) % W = j := by
  rw [Nat.mul_comm, Nat.mul_add_mod]
  exact Nat.mod_eq_of_lt h
end Go.Proofs.Qxb6002705a
