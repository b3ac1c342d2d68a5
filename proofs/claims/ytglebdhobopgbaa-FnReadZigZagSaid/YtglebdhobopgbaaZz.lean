/- The arithmetic of the zigzag form over whole numbers: what the bit operations of the program and of the reference come to. No condition but that the number is an int64. -/
import Derived.Laws.BitsAllLaws
import Derived.Laws.BitsLemmas
import Derived.RowKit
namespace Go.Proofs.Ytglebdhobopgbaa.Zz
open Go.RowKit

/-- The number that is written in groups of seven bits. -/
def zz (a : Int) : Int := if 0 ≤ a then 2 * a else -2 * a - 1

theorem zz_nonneg (a : Int) : 0 ≤ zz a := by unfold zz; split <;> omega
theorem zz_lt {a : Int} (h1 : -9223372036854775808 ≤ a) (h2 : a ≤ 9223372036854775807) : zz a < 18446744073709551616 := by unfold zz; split <;> omega

theorem u64_wrap (n : Int) : IntKind.u64.wrap n = n % 18446744073709551616 := IntKind.wrap_u64 n

theorem toNat_ofInt64 (n : Int) : ((BitVec.ofInt 64 n).toNat : Int) = n % 18446744073709551616 := by
  rw [BitVec.toNat_ofInt]
  have h : (2 ^ 64 : Nat) = 18446744073709551616 := by decide
  rw [h]
  omega

theorem xor_ones (x : BitVec 64) : x ^^^ BitVec.ofInt 64 (-1) = ~~~x := by
  have h : BitVec.ofInt 64 (-1) = BitVec.allOnes 64 := by decide
  rw [h, BitVec.xor_allOnes]

theorem i64_xor_zero (x : Int) : bits .xor .i64 x 0 = IntKind.i64.wrap (x % 18446744073709551616) := by
  show IntKind.i64.wrap ((BitVec.ofInt 64 x ^^^ BitVec.ofInt 64 0).toNat : Int) = _
  have h : BitVec.ofInt 64 0 = 0#64 := by decide
  rw [h, BitVec.xor_zero, toNat_ofInt64]

theorem i64_xor_ones (x : Int) : bits .xor .i64 x (-1) = IntKind.i64.wrap (18446744073709551615 - x % 18446744073709551616) := by
  show IntKind.i64.wrap ((BitVec.ofInt 64 x ^^^ BitVec.ofInt 64 (-1)).toNat : Int) = _
  rw [xor_ones, BitVec.toNat_not]
  have h := toNat_ofInt64 x
  have h2 : (2 ^ 64 : Nat) = 18446744073709551616 := by decide
  have h3 := (BitVec.ofInt 64 x).isLt
  rw [h2] at h3
  rw [h2]
  congr 1
  omega

theorem u64_xor_ones (x : Int) : bits .xor .u64 x 18446744073709551615 = IntKind.u64.wrap (18446744073709551615 - x % 18446744073709551616) := by
  show IntKind.u64.wrap ((BitVec.ofInt 64 x ^^^ BitVec.ofInt 64 18446744073709551615).toNat : Int) = _
  have h1 : BitVec.ofInt 64 18446744073709551615 = BitVec.ofInt 64 (-1) := by decide
  rw [h1, xor_ones, BitVec.toNat_not]
  have h := toNat_ofInt64 x
  have h2 : (2 ^ 64 : Nat) = 18446744073709551616 := by decide
  have h3 := (BitVec.ofInt 64 x).isLt
  rw [h2] at h3
  rw [h2]
  congr 1
  omega

theorem u64_xor_zero (x : Int) : bits .xor .u64 x 0 = IntKind.u64.wrap (x % 18446744073709551616) := by
  show IntKind.u64.wrap ((BitVec.ofInt 64 x ^^^ BitVec.ofInt 64 0).toNat : Int) = _
  have h : BitVec.ofInt 64 0 = 0#64 := by decide
  rw [h, BitVec.xor_zero, toNat_ofInt64]

/-- What the program reckons. -/
theorem zz_prog {a : Int} (h1 : -9223372036854775808 ≤ a) (h2 : a ≤ 9223372036854775807) :
    IntKind.u64.wrap (bits .xor .i64 (wrap64 (a * 2)) (a / 9223372036854775808)) = zz a := by
  by_cases h : 0 ≤ a
  · rw [show a / 9223372036854775808 = 0 by omega, i64_xor_zero, u64_wrap, IntKind.wrap_i64]
    unfold zz wrap64; rw [if_pos h]; omega
  · rw [show a / 9223372036854775808 = -1 by omega, i64_xor_ones, u64_wrap, IntKind.wrap_i64]
    unfold zz wrap64; rw [if_neg h]; omega

/-- What the reference reckons. -/
theorem zz_spec {a : Int} (h1 : -9223372036854775808 ≤ a) (h2 : a ≤ 9223372036854775807) :
    bits .xor .u64 (IntKind.u64.wrap (wrap64 (a * 2))) (IntKind.u64.wrap (a / 9223372036854775808)) = zz a := by
  by_cases h : 0 ≤ a
  · rw [show a / 9223372036854775808 = 0 by omega, show IntKind.u64.wrap 0 = 0 by decide, u64_xor_zero, u64_wrap, u64_wrap]
    unfold zz wrap64; rw [if_pos h]; omega
  · rw [show a / 9223372036854775808 = -1 by omega, show IntKind.u64.wrap (-1) = 18446744073709551615 by decide, u64_xor_ones, u64_wrap, u64_wrap]
    unfold zz wrap64; rw [if_neg h]; omega

/-- A byte of a group that is not the last one: seven bits and 128. -/
theorem or_byte {y : Int} (h1 : 0 ≤ y) (h2 : y < 18446744073709551616) : bits .or .u64 y 128 % 256 = y % 128 + 128 := by
  rw [u64_or y 128 h1 h2 (by decide) (by decide)]
  obtain ⟨n, rfl⟩ := Int.eq_ofNat_of_zero_le h1
  have e : (n ||| 128) % 256 = n % 128 + 128 := by
    have a1 : (n ||| 128) % 2 ^ 8 = n % 2 ^ 8 ||| 128 % 2 ^ 8 := Nat.or_mod_two_pow
    have a2 : ∀ m : Fin 256, m.val ||| 128 = m.val % 128 + 128 := by decide +kernel
    have a3 := a2 ⟨n % 256, by omega⟩
    simp only [show (2 : Nat) ^ 8 = 256 by decide] at a1
    rw [a1]
    simp only at a3
    rw [show 128 % 256 = 128 by decide, a3]
    omega
  rw [Int.toNat_natCast]
  show ((n ||| (128 : Int).toNat : Nat) : Int) % 256 = _
  rw [show (128 : Int).toNat = 128 by decide]
  omega

theorem and_127 {y : Int} (h1 : 0 ≤ y) (h2 : y < 18446744073709551616) : bits .and .u64 y 127 = y % 128 := by
  rw [u64_and y 127 h1 h2 (by decide) (by decide)]
  obtain ⟨n, rfl⟩ := Int.eq_ofNat_of_zero_le h1
  rw [Int.toNat_natCast, show (127 : Int).toNat = 127 by decide, nat_mask7]
  omega

theorem and_or_byte {y : Int} (h1 : 0 ≤ y) (h2 : y < 18446744073709551616) : bits .or .u64 (bits .and .u64 y 127) 128 % 256 = y % 128 + 128 := by
  rw [and_127 h1 h2, or_byte (by omega) (by omega)]
  omega

end Go.Proofs.Ytglebdhobopgbaa.Zz
