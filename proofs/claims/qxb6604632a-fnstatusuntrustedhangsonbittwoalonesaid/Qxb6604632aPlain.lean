import Derived.WalkKit
import Derived.Laws.BitsAllLaws
namespace Go.Proofs.Qxb6604632a.Plain
open Go

theorem and4 (a : Int) (h1 : 0 ≤ a) (h2 : a < 4294967296) : bits .and .u32 a 4 = a / 4 % 2 * 4 := by
  rw [u32_and a 4 h1 h2 (by omega) (by omega)]
  have := nat_bit 2 a.toNat
  simp only [show (2:Nat)^2 = 4 from rfl] at this
  rw [show (4:Int).toNat = 4 from rfl, this]
  omega

theorem lawOne (a : Int) (h1 : 0 ≤ a) (h2 : a < 4294967296) :
    ((bits .and .u32 a 4 != 0) == decide (4 ≤ a % 8)) = true := by
  rw [and4 a h1 h2]
  by_cases h : 4 ≤ a % 8
  · have : (a / 4 % 2 * 4 != 0) = true := by simp; omega
    simp [this, h]
  · have : (a / 4 % 2 * 4 != 0) = false := by simp; omega
    simp [this, h]

theorem ret_true {a : Bool} (h : a = true) : Ending.returned (.bool a) = .returned (.bool true) := by rw [h]

theorem nat4 (n : Nat) : (n &&& 4 != 0) = n.testBit 2 := by
  have := nat_bit 2 n
  simp only [show (2:Nat)^2 = 4 from rfl] at this
  rw [this, Nat.testBit_eq_decide_div_mod_eq]
  simp only [show (2:Nat)^2 = 4 from rfl]
  by_cases h : n / 4 % 2 = 1
  · simp [h]
  · have : n / 4 % 2 = 0 := by omega
    simp [this]

theorem unt_nat (a : Int) (h1 : 0 ≤ a) (h2 : a < 4294967296) : (bits .and .u32 a 4 != 0) = a.toNat.testBit 2 := by
  rw [← nat4, u32_and a 4 h1 h2 (by omega) (by omega)]
  rw [show (4:Int).toNat = 4 from rfl]
  rw [Bool.eq_iff_iff]; simp

theorem xor_bd (a b : Int) (h1 : 0 ≤ a) (h2 : a < 4294967296) (h3 : 0 ≤ b) (h4 : b < 4294967296) :
    0 ≤ bits .xor .u32 a b ∧ bits .xor .u32 a b < 4294967296 ∧ (bits .xor .u32 a b).toNat = a.toNat ^^^ b.toNat := by
  rw [u32_xor a b h1 h2 h3 h4]
  have h := Nat.xor_lt_two_pow (n := 32) (x := a.toNat) (y := b.toNat) (by omega) (by omega)
  refine ⟨by omega, by omega, by omega⟩

theorem andNot_bd (a b : Int) (h1 : 0 ≤ a) (h2 : a < 4294967296) (h3 : 0 ≤ b) (h4 : b < 4294967296) :
    0 ≤ bits .andNot .u32 a b ∧ bits .andNot .u32 a b < 4294967296 ∧ (bits .andNot .u32 a b).toNat = a.toNat &&& (4294967295 - b.toNat) := by
  rw [u32_andNot a b h1 h2 h3 h4]
  have h := Nat.and_lt_two_pow (n := 32) a.toNat (y := 4294967295 - b.toNat) (by omega)
  refine ⟨by omega, by omega, by omega⟩

theorem flip (a : Int) (h1 : 0 ≤ a) (h2 : a < 4294967296) :
    ((bits .and .u32 (bits .xor .u32 a 4) 4 != 0) != (bits .and .u32 a 4 != 0)) = true := by
  obtain ⟨x1, x2, x3⟩ := xor_bd a 4 h1 h2 (by omega) (by omega)
  rw [unt_nat a h1 h2, unt_nat _ x1 x2, x3, Nat.testBit_xor]
  have : (4:Int).toNat.testBit 2 = true := by decide
  rw [this]
  cases a.toNat.testBit 2 <;> rfl

theorem keep (a t : Int) (h1 : 0 ≤ a) (h2 : a < 4294967296) (h3 : 0 ≤ t) (h4 : t < 4294967296) :
    ((bits .and .u32 (bits .xor .u32 a (bits .andNot .u32 t 4)) 4 != 0) == (bits .and .u32 a 4 != 0)) = true := by
  obtain ⟨y1, y2, y3⟩ := andNot_bd t 4 h3 h4 (by omega) (by omega)
  obtain ⟨x1, x2, x3⟩ := xor_bd a _ h1 h2 y1 y2
  rw [unt_nat a h1 h2, unt_nat _ x1 x2, x3, Nat.testBit_xor, y3, Nat.testBit_and]
  have : (4294967295 - (4:Int).toNat).testBit 2 = false := by decide
  rw [this]
  simp
end Go.Proofs.Qxb6604632a.Plain
