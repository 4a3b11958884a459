import Derived.Test.Qxb6002705aPlain
/- Plain facts on the last word of a column, for fits. -/
namespace Go.Proofs.Qxb6002705a
open Go.RowKit

theorem pow_nat (m : Nat) : ((2 ^ m : Nat) : Int) = (2 : Int) ^ m := by simp

theorem word_last_odd (n : Nat) (hz : ¬ n % 64 = 0) : word n (cd n - 1) = 2 ^ (n % 64) - 1 := by
  unfold word
  rw [if_pos ⟨hz, by unfold cd; omega⟩]

theorem fit_self (n : Nat) (hz : ¬ n % 64 = 0) : (word n (cd n - 1) / 2 ^ (n % 64) == 0) = true := by
  rw [word_last_odd n hz]
  obtain ⟨h1, _⟩ := pow_bd (n % 64) (by omega)
  rw [Int.ediv_eq_zero_of_lt (by omega) (by omega)]
  rfl

theorem ones_div : ones / 2 ^ 63 = 1 := by unfold ones; decide

theorem fit_less (n : Nat) (hn : 1 ≤ n) (h : cd n = cd (n - 1)) : (word n (cd n - 1) / 2 ^ ((n - 1) % 64) == 0) = false := by
  by_cases hz : n % 64 = 0
  · have e : (n - 1) % 64 = 63 := by omega
    have ew : word n (cd n - 1) = ones := by unfold word; rw [if_neg (by omega)]
    rw [ew, e, ones_div]
    rfl
  · rw [word_last_odd n hz]
    unfold cd at h
    have e : n % 64 = (n - 1) % 64 + 1 := by omega
    generalize (n - 1) % 64 = k at *
    rw [e, Int.pow_succ]
    have h0 : (1 : Int) ≤ 2 ^ k := by
      have := Nat.one_le_two_pow (n := k)
      rw [← pow_nat]
      omega
    have : ((2 : Int) ^ k * 2 - 1) / 2 ^ k = 1 := by
      rw [Int.ediv_eq_iff_of_pos (by omega)]
      omega
    rw [this]
    rfl

theorem or_pow (k : Nat) (hk : k < 64) : bits .or .u64 (2 ^ k - 1) (2 ^ k) / 2 ^ k = 1 := by
  obtain ⟨h1, h2⟩ := pow_bd k hk
  rw [u64_or ((2 : Int) ^ k - 1) ((2 : Int) ^ k) (by omega) (by omega) (by omega) (by omega)]
  have a1 : ((2 : Int) ^ k - 1).toNat = 2 ^ k - 1 := by rw [← pow_nat]; omega
  have a2 : ((2 : Int) ^ k).toNat = 2 ^ k := by rw [← pow_nat]; exact Int.toNat_natCast _
  rw [a1, a2]
  have hj : (2 ^ k) ||| (2 ^ k - 1) = 2 ^ k + (2 ^ k - 1) := nat_join k _ _ (Nat.mod_self _) (by have := Nat.one_le_two_pow (n := k); omega)
  rw [Nat.or_comm, hj, ← pow_nat]
  have h3 := Nat.one_le_two_pow (n := k)
  have : ((2 ^ k + (2 ^ k - 1)) / 2 ^ k : Nat) = 1 := by
    rw [Nat.div_eq_iff (by omega)]
    omega
  have h4 : (((2 ^ k + (2 ^ k - 1) : Nat) : Int) / ((2 ^ k : Nat) : Int)) = (((2 ^ k + (2 ^ k - 1)) / 2 ^ k : Nat) : Int) := by simp
  rw [h4, this]
  rfl

theorem fit_grown (n : Nat) (hz : ¬ n % 64 = 0) : (bits .or .u64 (word n (cd n - 1)) (IntKind.u64.wrap (2 ^ (n % 64))) / 2 ^ (n % 64) == 0) = false := by
  obtain ⟨h1, h2⟩ := pow_bd (n % 64) (by omega)
  have h3 : IntKind.u64.wrap (2 ^ (n % 64)) = 2 ^ (n % 64) := by rw [IntKind.wrap_u64]; omega
  rw [word_last_odd n hz, h3, or_pow _ (by omega)]
  rfl

end Go.Proofs.Qxb6002705a
