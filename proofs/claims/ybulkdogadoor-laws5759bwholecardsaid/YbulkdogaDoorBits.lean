/- THE BIT OPERATIONS of math.Abs, Copysign, Round, as numbers. -/
import Derived.Test.YbulkdogaDoorPlain
import Derived.WalkKit
namespace Go.Proofs.YbulkdogaDoor.Fl

theorem and_high (y D : Nat) (hy : y < 18446744073709551616) (hD : D ≤ 64) : y &&& (18446744073709551615 - (2 ^ D - 1)) = y / 2 ^ D * 2 ^ D := by
  have e1 : 18446744073709551615 - (2 ^ D - 1) = (2 ^ (64 - D) - 1) <<< D := by
    rw [Nat.shiftLeft_eq, Nat.sub_mul, Nat.one_mul, ← Nat.pow_add, show 64 - D + D = 64 by omega]
    have := Nat.two_pow_pos D
    have h64 : (2 : Nat) ^ D ≤ 2 ^ 64 := Nat.pow_le_pow_right (by decide) hD
    omega
  have e2 : y / 2 ^ D * 2 ^ D = (y >>> D) <<< D := by rw [Nat.shiftLeft_eq, Nat.shiftRight_eq_div_pow]
  rw [e1, e2]
  refine Nat.eq_of_testBit_eq fun i => ?_
  rw [Nat.testBit_and, Nat.testBit_shiftLeft, Nat.testBit_shiftLeft, Nat.testBit_two_pow_sub_one, Nat.testBit_shiftRight]
  by_cases h1 : D ≤ i
  · have hi : D + (i - D) = i := by omega
    rw [hi]
    by_cases h2 : i < 64
    · have a : decide (i ≥ D) = true := by simpa using h1
      have b : decide (i - D < 64 - D) = true := by simp; omega
      simp [a, b]
    · have : y.testBit i = false := Nat.testBit_lt_two_pow (Nat.lt_of_lt_of_le hy (by rw [show (18446744073709551616 : Nat) = 2 ^ 64 from rfl]; exact Nat.pow_le_pow_right (by decide) (by omega)))
      simp [this]
  · have a : decide (i ≥ D) = false := by simpa using h1
    simp [a]

theorem W_lt (s : Bool) (r : Nat) (h : r < 9223372036854775808) : W s r < 18446744073709551616 := by
  cases s <;> simp [W] <;> omega

theorem abs_bits (s : Bool) (r : Nat) (h : r < 9223372036854775808) : (bits .andNot .u64 (W s r : Nat) 9223372036854775808).toNat = W false r := by
  have e := u64_andNot_nat (W s r) 9223372036854775808 (W_lt s r h) (by decide)
  rw [show ((9223372036854775808 : Nat) : Int) = 9223372036854775808 from rfl] at e
  rw [e, Int.toNat_natCast]
  rw [show (18446744073709551615 - 9223372036854775808 : Nat) = 2 ^ 63 - 1 from by decide, Nat.and_two_pow_sub_one_eq_mod]
  cases s <;> simp [W] <;> omega

theorem sign_bits (s : Bool) (r : Nat) (h : r < 9223372036854775808) : bits .and .u64 (W s r : Nat) 9223372036854775808 = (W s 0 : Nat) := by
  have e := u64_and_nat (W s r) 9223372036854775808 (W_lt s r h) (by decide)
  rw [show ((9223372036854775808 : Nat) : Int) = 9223372036854775808 from rfl] at e
  rw [e, show (9223372036854775808 : Nat) = 2 ^ 63 from by decide, nat_bit]
  cases s <;> simp [W] <;> omega

theorem or_bits (s : Bool) (y : Nat) (h : y < 9223372036854775808) : bits .or .u64 (y : Nat) (W s 0 : Nat) = (W s y : Nat) := by
  rw [u64_or_nat y (W s 0) (by omega) (W_lt s 0 (by decide))]
  cases s
  · simp [W]
  · have := nat_join 63 (W true 0) y (by decide) (by omega)
    rw [Nat.or_comm, this]
    simp [W]

theorem or_bits' (s : Bool) (y : Nat) (h : y < 9223372036854775808) : bits .or .u64 (W s 0 : Nat) (y : Nat) = (W s y : Nat) := by
  rw [u64_or_nat (W s 0) y (W_lt s 0 (by decide)) (by omega)]
  cases s
  · simp [W]
  · have := nat_join 63 (W true 0) y (by decide) (by omega)
    rw [this]
    simp [W]

theorem exp_bits (s : Bool) (r : Nat) (h : r < 9223372036854775808) : bits .and .u64 ((W s r : Nat) / 4503599627370496) 2047 = ((r / 4503599627370496 : Nat) : Int) := by
  have hd : ((W s r : Nat) : Int) / 4503599627370496 = ((W s r / 4503599627370496 : Nat) : Int) := by rw [Int.natCast_ediv]; rfl
  rw [hd]
  have hw := W_lt s r h
  have e := u64_and_nat (W s r / 4503599627370496) 2047 (by omega) (by decide)
  rw [show ((2047 : Nat) : Int) = 2047 from rfl] at e
  rw [e, show (2047 : Nat) = 2 ^ 11 - 1 from by decide, Nat.and_two_pow_sub_one_eq_mod]
  cases s <;> simp [W] <;> omega

theorem half_shr (E : Nat) (h1 : 1023 ≤ E) (h2 : E ≤ 1074) : (2251799813685248 : Int) / 2 ^ (E - 1023) = ((2 ^ (1074 - E) : Nat) : Int) := by
  have : (2251799813685248 : Nat) / 2 ^ (E - 1023) = 2 ^ (1074 - E) := by
    rw [show (2251799813685248 : Nat) = 2 ^ (1074 - E) * 2 ^ (E - 1023) by rw [← Nat.pow_add, show 1074 - E + (E - 1023) = 51 by omega]]
    exact Nat.mul_div_cancel _ (Nat.two_pow_pos _)
  rw [← this, Int.natCast_ediv]
  simp

theorem frac_shr (E : Nat) (h1 : 1023 ≤ E) (h2 : E ≤ 1074) : (4503599627370495 : Int) / 2 ^ (E - 1023) = ((2 ^ (1075 - E) - 1 : Nat) : Int) := by
  have hp := Nat.two_pow_pos (E - 1023)
  have hq := Nat.two_pow_pos (1075 - E)
  have e : (4503599627370496 : Nat) = 2 ^ (1075 - E) * 2 ^ (E - 1023) := by rw [← Nat.pow_add, show 1075 - E + (E - 1023) = 52 by omega]
  have : (4503599627370495 : Nat) / 2 ^ (E - 1023) = 2 ^ (1075 - E) - 1 := by
    rw [Nat.div_eq_iff hp, Nat.sub_mul, Nat.one_mul, ← e]
    have : 2 ^ (E - 1023) ≤ 4503599627370496 := by
      rw [e]; exact Nat.le_mul_of_pos_left _ hq
    omega
  rw [← this, Int.natCast_ediv]
  simp

theorem mid_bits (s : Bool) (r : Nat) (h1 : 4607182418800017408 ≤ r) (h2 : r < 4841369599423283200) :
    (bits .andNot .u64 (IntKind.u64.wrap ((W s r : Nat) + (2251799813685248 : Int) / 2 ^ ((r / 4503599627370496 : Nat) - 1023))) ((4503599627370495 : Int) / 2 ^ ((r / 4503599627370496 : Nat) - 1023))).toNat = W s (bitsRnd r) := by
  have hE1 : 1023 ≤ r / 4503599627370496 := by omega
  have hE2 : r / 4503599627370496 ≤ 1074 := by omega
  rw [half_shr _ hE1 hE2, frac_shr _ hE1 hE2, IntKind.wrap_u64]
  unfold bitsRnd
  rw [if_neg (by omega), if_neg (by omega), if_pos h2]
  generalize r / 4503599627370496 = E at *
  have hD : (2 : Nat) ^ (1074 - E) ≤ 2 ^ 51 := Nat.pow_le_pow_right (by decide) (by omega)
  have hD' : (2 : Nat) ^ (1075 - E) ≤ 2 ^ 52 := Nat.pow_le_pow_right (by decide) (by omega)
  have hw : W s r + 2 ^ (1074 - E) < 18446744073709551616 := by
    cases s <;> simp [W] <;> omega
  have e1 : (((W s r : Nat) : Int) + ((2 ^ (1074 - E) : Nat) : Int)) % 18446744073709551616 = ((W s r + 2 ^ (1074 - E) : Nat) : Int) := by
    generalize 2 ^ (1074 - E) = z at hw
    omega
  rw [e1, u64_andNot_nat _ _ hw (by omega), Int.toNat_natCast, and_high _ _ hw (by omega)]
  cases s
  · simp [W]
  · have e63 : (9223372036854775808 : Nat) = 2 ^ (1075 - E) * 2 ^ (63 - (1075 - E)) := by rw [← Nat.pow_add, show 1075 - E + (63 - (1075 - E)) = 63 by omega]
    show (9223372036854775808 + r + 2 ^ (1074 - E)) / 2 ^ (1075 - E) * 2 ^ (1075 - E) = 9223372036854775808 + (r + 2 ^ (1074 - E)) / 2 ^ (1075 - E) * 2 ^ (1075 - E)
    rw [Nat.add_assoc]
    generalize r + 2 ^ (1074 - E) = y
    rw [e63, Nat.mul_add_div (Nat.two_pow_pos _), Nat.add_mul, Nat.mul_comm (2 ^ (1075 - E)) (2 ^ (63 - (1075 - E)))]

end Go.Proofs.YbulkdogaDoor.Fl
