import Derived.Test.YbulkbtwyKit
import Derived.Laws.BitsAllLaws
import Derived.Laws.DeepBits32
namespace Go.Proofs.Ybulkbtwy
open Go.RowKit

theorem and_high (x : Nat) (hx : x < 4294967296) : x &&& 4294963200 = x - x % 4096 := by
  have e1 : 4294963200 = (2 ^ 20 - 1) <<< 12 := by decide
  have e2 : x - x % 4096 = (x >>> 12) <<< 12 := by
    rw [Nat.shiftLeft_eq, Nat.shiftRight_eq_div_pow]
    show x - x % 4096 = x / 4096 * 4096
    omega
  rw [e1, e2]
  apply Nat.eq_of_testBit_eq
  intro i
  rw [Nat.testBit_and, Nat.testBit_shiftLeft, Nat.testBit_shiftLeft, Nat.testBit_shiftRight, Nat.testBit_two_pow_sub_one]
  by_cases hi : 12 ≤ i
  · rw [show 12 + (i - 12) = i from by omega]
    by_cases hj : i - 12 < 20
    · simp [hi, hj]
    · have : x.testBit i = false := Nat.testBit_lt_two_pow (Nat.lt_of_lt_of_le hx (by
        have : 2 ^ 32 ≤ 2 ^ i := Nat.pow_le_pow_right (by omega) (by omega)
        simpa using this))
      simp [this]
  · simp [hi]

theorem i32_clear (x : Nat) (hx : x < 2147483648) : bits .andNot .i32 (x : Int) 4095 = ((x - x % 4096 : Nat) : Int) := by
  show IntKind.i32.wrap ((BitVec.ofInt 32 (x : Int) &&& ~~~BitVec.ofInt 32 4095).toNat : Int) = _
  have h1 : (BitVec.ofInt 32 4095).toNat = 4095 := by decide
  rw [BitVec.toNat_and, BitVec.toNat_not, ofInt_u32 x (by omega), h1, show 2 ^ 32 - 1 - 4095 = 4294963200 by decide, and_high x (by omega)]
  exact wrap_i32_small _ (by omega) (by omega)

theorem i32_and63 (x : Nat) (hx : x < 2147483648) : bits .and .i32 (x : Int) 63 = ((x % 64 : Nat) : Int) := by
  show IntKind.i32.wrap ((BitVec.ofInt 32 (x : Int) &&& BitVec.ofInt 32 63).toNat : Int) = _
  have h1 : (BitVec.ofInt 32 63).toNat = 63 := by decide
  rw [BitVec.toNat_and, ofInt_u32 x (by omega), h1, nat_mask6]
  exact wrap_i32_small _ (by omega) (by omega)

theorem u16_and63 (x : Nat) (hx : x < 65536) : bits .and .u16 (x : Int) 63 = ((x % 64 : Nat) : Int) := by
  rw [show (63 : Int) = ((63 : Nat) : Int) from rfl, u16_and_nat x 63 hx (by omega), nat_mask6]

theorem u16_and15 (x : Nat) (hx : x < 65536) : bits .and .u16 (x : Int) 15 = ((x % 16 : Nat) : Int) := by
  rw [show (15 : Int) = ((15 : Nat) : Int) from rfl, u16_and_nat x 15 hx (by omega), nat_mask4]

end Go.Proofs.Ybulkbtwy
