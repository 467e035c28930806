/-
  Plain arithmetic of the header's word: no Go in sight but the model's 'bits'.
-/
import Derived.WalkKit
import Derived.Laws.Bits64b
namespace Go.Proofs.Qxb6614154a

theorem or_u32_nat (a b : Nat) (ha : a < 4294967296) (hb : b < 4294967296) : bits .or .u32 (a : Int) (b : Int) = ((a ||| b : Nat) : Int) := by
  have hx : a ||| b < 2 ^ 32 := Nat.or_lt_two_pow (by omega) (by omega)
  have h1 : (BitVec.ofInt 32 (a : Int)).toNat = a := by
    rw [BitVec.ofInt_natCast, BitVec.toNat_ofNat]; exact Nat.mod_eq_of_lt (by omega)
  have h2 : (BitVec.ofInt 32 (b : Int)).toNat = b := by
    rw [BitVec.ofInt_natCast, BitVec.toNat_ofNat]; exact Nat.mod_eq_of_lt (by omega)
  show IntKind.u32.wrap ((BitVec.ofInt 32 (a : Int) ||| BitVec.ofInt 32 (b : Int)).toNat : Int) = _
  rw [BitVec.toNat_or, h1, h2, IntKind.wrap_u32]
  omega
theorem and_u32_nat (a b : Nat) (ha : a < 4294967296) (hb : b < 4294967296) : bits .and .u32 (a : Int) (b : Int) = ((a &&& b : Nat) : Int) := by
  have hx : a &&& b < 2 ^ 32 := Nat.and_lt_two_pow a (by omega)
  have h1 : (BitVec.ofInt 32 (a : Int)).toNat = a := by
    rw [BitVec.ofInt_natCast, BitVec.toNat_ofNat]; exact Nat.mod_eq_of_lt (by omega)
  have h2 : (BitVec.ofInt 32 (b : Int)).toNat = b := by
    rw [BitVec.ofInt_natCast, BitVec.toNat_ofNat]; exact Nat.mod_eq_of_lt (by omega)
  show IntKind.u32.wrap ((BitVec.ofInt 32 (a : Int) &&& BitVec.ofInt 32 (b : Int)).toNat : Int) = _
  rw [BitVec.toNat_and, h1, h2, IntKind.wrap_u32]
  omega

/-- 'or' of numbers whose bits lie apart is their sum -/
theorem orI (c : Nat) (A b : Int) (hA : 0 ≤ A) (hb : 0 ≤ b) (hbc : b < ((2 ^ c : Nat) : Int)) (hc : A * ((2 ^ c : Nat) : Int) + b < 4294967296) : bits .or .u32 (A * ((2 ^ c : Nat) : Int)) b = A * ((2 ^ c : Nat) : Int) + b := by
  obtain ⟨x, rfl⟩ := Int.eq_ofNat_of_zero_le hA
  obtain ⟨y, rfl⟩ := Int.eq_ofNat_of_zero_le hb
  have e : ((x : Int) * ((2 ^ c : Nat) : Int)) = ((x * 2 ^ c : Nat) : Int) := by simp
  rw [e] at hc ⊢
  have hy : y < 2 ^ c := Int.ofNat_lt.1 hbc
  have hlt : x * 2 ^ c + y < 4294967296 := by omega
  rw [or_u32_nat _ _ (by omega) (by omega), Nat.mul_comm x, ← Nat.two_pow_add_eq_or_of_lt hy]
  simp

theorem and31 (h : Int) : bits .and .u32 (h % 4294967296) 31 = h % 32 := by
  obtain ⟨x, hx⟩ := Int.eq_ofNat_of_zero_le (show 0 ≤ h % 4294967296 by omega)
  have hlt : x < 4294967296 := by omega
  have e : bits .and .u32 (x : Int) ((31 : Nat) : Int) = ((x &&& 31 : Nat) : Int) := and_u32_nat x 31 hlt (by omega)
  rw [hx, show (31 : Int) = ((31 : Nat) : Int) from rfl, e]
  have := Nat.and_two_pow_sub_one_eq_mod x 5
  simp at this
  rw [this]
  omega
theorem and7 (h : Int) (h0 : 0 ≤ h) (h1 : h < 4294967296) : bits .and .u32 h 7 = h % 8 := by
  obtain ⟨x, rfl⟩ := Int.eq_ofNat_of_zero_le h0
  have e : bits .and .u32 (x : Int) ((7 : Nat) : Int) = ((x &&& 7 : Nat) : Int) := and_u32_nat x 7 (by omega) (by omega)
  rw [show (7 : Int) = ((7 : Nat) : Int) from rfl, e]
  have := Nat.and_two_pow_sub_one_eq_mod x 3
  simp at this
  rw [this]
  omega

/-- the header's word, i the flag as a number -/
def wordN (sb eb i g m q h u : Int) : Int := sb * 536870912 + eb * 67108864 + i * 33554432 + 16777216 + g * 1048576 + m * 32768 + q * 1024 + h % 32 * 32 + u % 32

theorem word_eq (sb eb i g m q h u : Int) (s0 : 0 ≤ sb) (s7 : sb ≤ 7) (e0 : 0 ≤ eb) (e7 : eb ≤ 7) (i0 : 0 ≤ i) (i1 : i ≤ 1) (g0 : 0 ≤ g) (g12 : g ≤ 12) (m0 : 0 ≤ m) (m31 : m ≤ 31) (q0 : 0 ≤ q) (q31 : q ≤ 31) :
    bits .or .u32 (bits .or .u32 (bits .or .u32 (bits .or .u32 (bits .or .u32 (bits .or .u32 (bits .or .u32 (bits .or .u32 (sb * 536870912) (eb * 67108864)) (i * 33554432 % 4294967296)) (1 * 16777216 % 4294967296)) (g * 1048576)) (m * 32768)) (q * 1024)) (bits .and .u32 (h % 4294967296) 31 * 32 % 4294967296)) (bits .and .u32 (u % 4294967296) 31) = wordN sb eb i g m q h u := by
  rw [and31, and31]
  have p1 : bits .or .u32 (sb * 536870912) (eb * 67108864) = sb * 536870912 + eb * 67108864 := orI 29 sb _ s0 (by omega) (by omega) (by omega)
  rw [p1]
  have p2 : bits .or .u32 (sb * 536870912 + eb * 67108864) (i * 33554432 % 4294967296) = sb * 536870912 + eb * 67108864 + i * 33554432 := by
    have := orI 26 (sb * 8 + eb) (i * 33554432 % 4294967296) (by omega) (by omega) (by omega) (by omega)
    rw [show (sb * 8 + eb) * ((2 ^ 26 : Nat) : Int) = sb * 536870912 + eb * 67108864 from by omega] at this
    rw [this]; omega
  rw [p2]
  have p3 : bits .or .u32 (sb * 536870912 + eb * 67108864 + i * 33554432) (1 * 16777216 % 4294967296) = sb * 536870912 + eb * 67108864 + i * 33554432 + 16777216 := by
    have := orI 25 (sb * 16 + eb * 2 + i) (1 * 16777216 % 4294967296) (by omega) (by omega) (by omega) (by omega)
    rw [show (sb * 16 + eb * 2 + i) * ((2 ^ 25 : Nat) : Int) = sb * 536870912 + eb * 67108864 + i * 33554432 from by omega] at this
    rw [this]; omega
  rw [p3]
  have p4 : bits .or .u32 (sb * 536870912 + eb * 67108864 + i * 33554432 + 16777216) (g * 1048576) = sb * 536870912 + eb * 67108864 + i * 33554432 + 16777216 + g * 1048576 := by
    have := orI 24 (sb * 32 + eb * 4 + i * 2 + 1) (g * 1048576) (by omega) (by omega) (by omega) (by omega)
    rw [show (sb * 32 + eb * 4 + i * 2 + 1) * ((2 ^ 24 : Nat) : Int) = sb * 536870912 + eb * 67108864 + i * 33554432 + 16777216 from by omega] at this
    exact this
  rw [p4]
  have p5 : bits .or .u32 (sb * 536870912 + eb * 67108864 + i * 33554432 + 16777216 + g * 1048576) (m * 32768) = sb * 536870912 + eb * 67108864 + i * 33554432 + 16777216 + g * 1048576 + m * 32768 := by
    have := orI 20 (sb * 512 + eb * 64 + i * 32 + 16 + g) (m * 32768) (by omega) (by omega) (by omega) (by omega)
    rw [show (sb * 512 + eb * 64 + i * 32 + 16 + g) * ((2 ^ 20 : Nat) : Int) = sb * 536870912 + eb * 67108864 + i * 33554432 + 16777216 + g * 1048576 from by omega] at this
    exact this
  rw [p5]
  have p6 : bits .or .u32 (sb * 536870912 + eb * 67108864 + i * 33554432 + 16777216 + g * 1048576 + m * 32768) (q * 1024) = sb * 536870912 + eb * 67108864 + i * 33554432 + 16777216 + g * 1048576 + m * 32768 + q * 1024 := by
    have := orI 15 (sb * 16384 + eb * 2048 + i * 1024 + 512 + g * 32 + m) (q * 1024) (by omega) (by omega) (by omega) (by omega)
    rw [show (sb * 16384 + eb * 2048 + i * 1024 + 512 + g * 32 + m) * ((2 ^ 15 : Nat) : Int) = sb * 536870912 + eb * 67108864 + i * 33554432 + 16777216 + g * 1048576 + m * 32768 from by omega] at this
    exact this
  rw [p6]
  have p7 : bits .or .u32 (sb * 536870912 + eb * 67108864 + i * 33554432 + 16777216 + g * 1048576 + m * 32768 + q * 1024) (h % 32 * 32 % 4294967296) = sb * 536870912 + eb * 67108864 + i * 33554432 + 16777216 + g * 1048576 + m * 32768 + q * 1024 + h % 32 * 32 := by
    have := orI 10 (sb * 524288 + eb * 65536 + i * 32768 + 16384 + g * 1024 + m * 32 + q) (h % 32 * 32 % 4294967296) (by omega) (by omega) (by omega) (by omega)
    rw [show (sb * 524288 + eb * 65536 + i * 32768 + 16384 + g * 1024 + m * 32 + q) * ((2 ^ 10 : Nat) : Int) = sb * 536870912 + eb * 67108864 + i * 33554432 + 16777216 + g * 1048576 + m * 32768 + q * 1024 from by omega] at this
    rw [this]; omega
  rw [p7]
  have := orI 5 (sb * 16777216 + eb * 2097152 + i * 1048576 + 524288 + g * 32768 + m * 1024 + q * 32 + h % 32) (u % 32) (by omega) (by omega) (by omega) (by omega)
  rw [show (sb * 16777216 + eb * 2097152 + i * 1048576 + 524288 + g * 32768 + m * 1024 + q * 32 + h % 32) * ((2 ^ 5 : Nat) : Int) = sb * 536870912 + eb * 67108864 + i * 33554432 + 16777216 + g * 1048576 + m * 32768 + q * 1024 + h % 32 * 32 from by omega] at this
  exact this
end Go.Proofs.Qxb6614154a
