/-
  PLAIN ARITHMETIC: the top bit flipped; bytes joined. No Go program in sight.
-/
import Derived.WalkKit
import Derived.Laws.BitsAllLaws
namespace Go.Proofs.YbulkdczcFmt
open Go.RowKit

theorem xor_low (n z : Nat) (hz : z < 2 ^ n) : z ^^^ 2 ^ n = 2 ^ n + z := by
  apply Nat.eq_of_testBit_eq
  intro i
  rw [Nat.testBit_xor, Nat.testBit_two_pow]
  rcases Nat.lt_trichotomy i n with h | h | h
  · rw [Nat.testBit_two_pow_add_gt h]
    have : ¬ n = i := by omega
    simp [this]
  · subst h
    rw [Nat.testBit_two_pow_add_eq]
    simp [Nat.testBit_lt_two_pow hz]
  · have h1 : z < 2 ^ i := Nat.lt_trans hz (Nat.pow_lt_pow_right (by omega) h)
    have h2 : 2 ^ n + z < 2 ^ i := by
      have : 2 ^ (n + 1) ≤ 2 ^ i := Nat.pow_le_pow_right (by omega) h
      rw [Nat.pow_succ] at this; omega
    rw [Nat.testBit_lt_two_pow h1, Nat.testBit_lt_two_pow h2]
    have : ¬ n = i := by omega
    simp [this]

theorem xor_high (n z : Nat) (hz : z < 2 ^ n) : (2 ^ n + z) ^^^ 2 ^ n = z := by
  rw [← xor_low n z hz, Nat.xor_assoc, Nat.xor_self, Nat.xor_zero]

/-- Flipping the top bit of n + 1 bits is adding 2^n, modulo 2^(n+1). -/
theorem xor_top (n y : Nat) (hy : y < 2 * 2 ^ n) : y ^^^ 2 ^ n = (y + 2 ^ n) % (2 * 2 ^ n) := by
  by_cases h : y < 2 ^ n
  · rw [xor_low n y h, Nat.mod_eq_of_lt (by omega)]; omega
  · obtain ⟨z, rfl⟩ : ∃ z, y = 2 ^ n + z := ⟨y - 2 ^ n, by omega⟩
    rw [xor_high n z (by omega)]
    have : 2 ^ n + z + 2 ^ n = z + 2 * 2 ^ n := by omega
    rw [this, Nat.add_mod_right, Nat.mod_eq_of_lt (by omega)]

theorem or_shift (i a b : Nat) (hb : b < 2 ^ i) : a * 2 ^ i ||| b = a * 2 ^ i + b := by
  have := Nat.two_pow_add_eq_or_of_lt hb a
  rw [Nat.mul_comm]; exact this.symm

theorem wu16 (x : Int) (h0 : 0 ≤ x) (h1 : x < 65536) : IntKind.u16.wrap x = x := by simp [IntKind.wrap, IntKind.bits, IntKind.signed]; omega
theorem wu32 (x : Int) (h0 : 0 ≤ x) (h1 : x < 4294967296) : IntKind.u32.wrap x = x := by simp [IntKind.wrap, IntKind.bits, IntKind.signed]; omega

theorem dec0 (a : Nat) (ha : a < 256) : wrap64 (IntKind.i8.wrap (bits BinOp.xor IntKind.u8 (a : Int) 128)) = (a : Int) - 128 := by
  have e2 : bits BinOp.xor IntKind.u8 (a : Int) 128 = (((a + 128) % 256 : Nat) : Int) := by
    have := u8_xor_nat a 128 (by omega) (by omega)
    rw [show a ^^^ 128 = (a + 128) % 256 from xor_top 7 _ (by omega)] at this
    exact this
  rw [e2]
  simp only [IntKind.wrap, IntKind.bits, IntKind.signed, wrap64]
  simp
  omega

theorem dec1 (a b : Nat) (ha : a < 256) (hb : b < 256) :
    wrap64 (IntKind.i16.wrap (bits BinOp.xor IntKind.u16 (bits BinOp.or IntKind.u16 (IntKind.u16.wrap (IntKind.u16.wrap (a : Int) * 256)) (IntKind.u16.wrap (b : Int))) 32768)) = (a : Int) * 256 + (b : Int) - 32768 := by
  rw [wu16 (a : Int) (by omega) (by omega), wu16 ((a : Int) * 256) (by omega) (by omega), wu16 (b : Int) (by omega) (by omega)]
  have e1 : bits BinOp.or IntKind.u16 ((a : Int) * 256) (b : Int) = ((a * 256 + b : Nat) : Int) := by
    have := u16_or_nat (a * 256) b (by omega) (by omega)
    rw [show a * 256 ||| b = a * 256 + b from or_shift 8 a b (by omega)] at this
    rw [← this]; congr 1
  rw [e1]
  have e2 : bits BinOp.xor IntKind.u16 ((a * 256 + b : Nat) : Int) 32768 = (((a * 256 + b + 32768) % 65536 : Nat) : Int) := by
    have := u16_xor_nat (a * 256 + b) 32768 (by omega) (by omega)
    rw [show (a * 256 + b) ^^^ 32768 = (a * 256 + b + 32768) % 65536 from xor_top 15 _ (by omega)] at this
    exact this
  rw [e2]
  simp only [IntKind.wrap, IntKind.bits, IntKind.signed, wrap64]
  simp
  omega

/-- Bytes joined: the next one below what stands. -/
theorem or_u32 (i x b : Nat) (hb : b < 2 ^ i) (hx : x * 2 ^ i + b < 4294967296) : bits BinOp.or IntKind.u32 ((x * 2 ^ i : Nat) : Int) ((b : Nat) : Int) = ((x * 2 ^ i + b : Nat) : Int) := by
  have := u32_or_nat (x * 2 ^ i) b (by omega) (by omega)
  rw [or_shift i x b hb] at this; exact this
theorem or_u64 (i x b : Nat) (hb : b < 2 ^ i) (hx : x * 2 ^ i + b < 18446744073709551616) : bits BinOp.or IntKind.u64 ((x * 2 ^ i : Nat) : Int) ((b : Nat) : Int) = ((x * 2 ^ i + b : Nat) : Int) := by
  have := u64_or_nat (x * 2 ^ i) b (by omega) (by omega)
  rw [or_shift i x b hb] at this; exact this

theorem dec2 (a b c d : Nat) (ha : a < 256) (hb : b < 256) (hc : c < 256) (hd : d < 256) :
    wrap64 (wrap32 (bits BinOp.xor IntKind.u32 (bits BinOp.or IntKind.u32 (bits BinOp.or IntKind.u32 (bits BinOp.or IntKind.u32 ((a : Int) % 4294967296 * 16777216 % 4294967296) ((b : Int) % 4294967296 * 65536 % 4294967296)) ((c : Int) % 4294967296 * 256 % 4294967296)) ((d : Int) % 4294967296)) 2147483648))
      = (a : Int) * 16777216 + (b : Int) * 65536 + (c : Int) * 256 + (d : Int) - 2147483648 := by
  rw [show (a : Int) % 4294967296 * 16777216 % 4294967296 = ((a * 2 ^ 24 : Nat) : Int) by omega, show (b : Int) % 4294967296 * 65536 % 4294967296 = ((b * 65536 : Nat) : Int) by omega,
    show (c : Int) % 4294967296 * 256 % 4294967296 = ((c * 256 : Nat) : Int) by omega, show (d : Int) % 4294967296 = ((d : Nat) : Int) by omega]
  rw [or_u32 24 a (b * 65536) (by omega) (by omega)]
  rw [show ((a * 2 ^ 24 + b * 65536 : Nat) : Int) = (((a * 256 + b) * 2 ^ 16 : Nat) : Int) by omega]
  rw [or_u32 16 (a * 256 + b) (c * 256) (by omega) (by omega)]
  rw [show (((a * 256 + b) * 2 ^ 16 + c * 256 : Nat) : Int) = ((((a * 256 + b) * 256 + c) * 2 ^ 8 : Nat) : Int) by omega]
  rw [or_u32 8 ((a * 256 + b) * 256 + c) d (by omega) (by omega)]
  have e2 := u32_xor_nat (((a * 256 + b) * 256 + c) * 2 ^ 8 + d) 2147483648 (by omega) (by omega)
  rw [show (((a * 256 + b) * 256 + c) * 2 ^ 8 + d) ^^^ 2147483648 = ((((a * 256 + b) * 256 + c) * 2 ^ 8 + d) + 2147483648) % 4294967296 from xor_top 31 _ (by omega)] at e2
  have e3 : ((2147483648 : Nat) : Int) = 2147483648 := rfl
  rw [e3] at e2
  rw [e2]
  simp only [wrap32, wrap64]
  omega

theorem wu64 (x : Int) (h0 : 0 ≤ x) (h1 : x < 18446744073709551616) : IntKind.u64.wrap x = x := by simp [IntKind.wrap, IntKind.bits, IntKind.signed]; omega

theorem dec3 (a b c d e f g h : Nat) (ha : a < 256) (hb : b < 256) (hc : c < 256) (hd : d < 256) (he : e < 256) (hf : f < 256) (hg : g < 256) (hh : h < 256) :
    wrap64 (bits BinOp.xor IntKind.u64 (bits BinOp.or IntKind.u64 (bits BinOp.or IntKind.u64 (bits BinOp.or IntKind.u64 (bits BinOp.or IntKind.u64 (bits BinOp.or IntKind.u64 (bits BinOp.or IntKind.u64 (bits BinOp.or IntKind.u64
      (IntKind.u64.wrap (IntKind.u64.wrap (a : Int) * 72057594037927936)) (IntKind.u64.wrap (IntKind.u64.wrap (b : Int) * 281474976710656))) (IntKind.u64.wrap (IntKind.u64.wrap (c : Int) * 1099511627776))) (IntKind.u64.wrap (IntKind.u64.wrap (d : Int) * 4294967296)))
      (IntKind.u64.wrap (IntKind.u64.wrap (e : Int) * 16777216))) (IntKind.u64.wrap (IntKind.u64.wrap (f : Int) * 65536))) (IntKind.u64.wrap (IntKind.u64.wrap (g : Int) * 256))) (IntKind.u64.wrap (h : Int))) 9223372036854775808)
      = (a : Int) * 72057594037927936 + (b : Int) * 281474976710656 + (c : Int) * 1099511627776 + (d : Int) * 4294967296 + (e : Int) * 16777216 + (f : Int) * 65536 + (g : Int) * 256 + (h : Int) - 9223372036854775808 := by
  rw [wu64 (a : Int) (by omega) (by omega), wu64 (b : Int) (by omega) (by omega), wu64 (c : Int) (by omega) (by omega), wu64 (d : Int) (by omega) (by omega), wu64 (e : Int) (by omega) (by omega), wu64 (f : Int) (by omega) (by omega), wu64 (g : Int) (by omega) (by omega), wu64 (h : Int) (by omega) (by omega)]
  rw [wu64 ((a : Int) * _) (by omega) (by omega), wu64 ((b : Int) * _) (by omega) (by omega), wu64 ((c : Int) * _) (by omega) (by omega), wu64 ((d : Int) * _) (by omega) (by omega), wu64 ((e : Int) * _) (by omega) (by omega), wu64 ((f : Int) * _) (by omega) (by omega), wu64 ((g : Int) * _) (by omega) (by omega)]
  rw [show (a : Int) * 72057594037927936 = ((a * 2 ^ 56 : Nat) : Int) by omega, show (b : Int) * 281474976710656 = ((b * 281474976710656 : Nat) : Int) by omega, show (c : Int) * 1099511627776 = ((c * 1099511627776 : Nat) : Int) by omega,
    show (d : Int) * 4294967296 = ((d * 4294967296 : Nat) : Int) by omega, show (e : Int) * 16777216 = ((e * 16777216 : Nat) : Int) by omega, show (f : Int) * 65536 = ((f * 65536 : Nat) : Int) by omega, show (g : Int) * 256 = ((g * 256 : Nat) : Int) by omega]
  rw [or_u64 56 a (b * 281474976710656) (by omega) (by omega), show ((a * 2 ^ 56 + b * 281474976710656 : Nat) : Int) = (((a * 256 + b) * 2 ^ 48 : Nat) : Int) by omega]
  generalize hx1 : a * 256 + b = x1
  rw [or_u64 48 x1 (c * 1099511627776) (by omega) (by omega), show ((x1 * 2 ^ 48 + c * 1099511627776 : Nat) : Int) = (((x1 * 256 + c) * 2 ^ 40 : Nat) : Int) by omega]
  generalize hx2 : x1 * 256 + c = x2
  rw [or_u64 40 x2 (d * 4294967296) (by omega) (by omega), show ((x2 * 2 ^ 40 + d * 4294967296 : Nat) : Int) = (((x2 * 256 + d) * 2 ^ 32 : Nat) : Int) by omega]
  generalize hx3 : x2 * 256 + d = x3
  rw [or_u64 32 x3 (e * 16777216) (by omega) (by omega), show ((x3 * 2 ^ 32 + e * 16777216 : Nat) : Int) = (((x3 * 256 + e) * 2 ^ 24 : Nat) : Int) by omega]
  generalize hx4 : x3 * 256 + e = x4
  rw [or_u64 24 x4 (f * 65536) (by omega) (by omega), show ((x4 * 2 ^ 24 + f * 65536 : Nat) : Int) = (((x4 * 256 + f) * 2 ^ 16 : Nat) : Int) by omega]
  generalize hx5 : x4 * 256 + f = x5
  rw [or_u64 16 x5 (g * 256) (by omega) (by omega), show ((x5 * 2 ^ 16 + g * 256 : Nat) : Int) = (((x5 * 256 + g) * 2 ^ 8 : Nat) : Int) by omega]
  generalize hx6 : x5 * 256 + g = x6
  rw [or_u64 8 x6 h (by omega) (by omega)]
  generalize hx7 : x6 * 2 ^ 8 + h = x7
  have e2 := u64_xor_nat x7 9223372036854775808 (by omega) (by omega)
  rw [show x7 ^^^ 9223372036854775808 = (x7 + 9223372036854775808) % 18446744073709551616 from xor_top 63 _ (by omega)] at e2
  have e3 : ((9223372036854775808 : Nat) : Int) = 9223372036854775808 := rfl
  rw [e3] at e2
  rw [e2]
  simp only [wrap64]
  omega

end Go.Proofs.YbulkdczcFmt
