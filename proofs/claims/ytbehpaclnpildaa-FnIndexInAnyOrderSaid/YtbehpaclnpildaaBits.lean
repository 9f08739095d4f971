/- The bit operations of the code as arithmetic: masks, complements, and a byte doubled. No program in sight. -/
import Derived.WalkKit
import Derived.Test.YtbehpaclnpildaaPlain
namespace Go.Proofs.Ytbehpaclnpildaa
open Go.RowKit Plain

theorem and_top_nat (n : Nat) : n &&& 4278190080 = 16777216 * (n / 16777216 % 256) := by
  have h1 : (n &&& 4278190080) / 16777216 = n / 16777216 % 256 := by
    have e : (n &&& 4278190080) >>> 24 = (n >>> 24) &&& (4278190080 >>> 24) := Nat.shiftRight_and_distrib
    have e2 : (4278190080 : Nat) >>> 24 = 2 ^ 8 - 1 := by decide
    rw [e2, Nat.and_two_pow_sub_one_eq_mod, Nat.shiftRight_eq_div_pow, Nat.shiftRight_eq_div_pow] at e
    exact e
  have h2 : (n &&& 4278190080) % 16777216 = 0 := by
    have e : (n &&& 4278190080) % 2 ^ 24 = (n % 2 ^ 24) &&& (4278190080 % 2 ^ 24) := Nat.and_mod_two_pow
    have e2 : (4278190080 : Nat) % 2 ^ 24 = 0 := by decide
    rw [e2, Nat.and_zero] at e
    exact e
  omega

/-- The test of the upper byte. -/
theorem and_top (v : Int) (h0 : 0 ≤ v) (h1 : v < 4294967296) : bits BinOp.and IntKind.u32 v 4278190080 = 16777216 * (v / 16777216) := by
  obtain ⟨n, rfl⟩ := Int.eq_ofNat_of_zero_le h0
  have hn : n < 4294967296 := by omega
  have e : bits BinOp.and IntKind.u32 (n : Int) 4278190080 = ((n &&& 4278190080 : Nat) : Int) % 4294967296 := by
    have hb : (BitVec.ofInt 32 (n : Int) &&& BitVec.ofInt 32 4278190080).toNat = n &&& 4278190080 := by
      rw [BitVec.toNat_and, BitVec.toNat_ofInt, BitVec.toNat_ofInt]
      have e1 : ((n : Int) % ((2 ^ 32 : Nat) : Int)).toNat = n := by omega
      have e2 : ((4278190080 : Int) % ((2 ^ 32 : Nat) : Int)).toNat = 4278190080 := by decide
      rw [e1, e2]
    show IntKind.u32.wrap ((BitVec.ofInt 32 (n : Int) &&& BitVec.ofInt 32 4278190080).toNat : Int) = _
    rw [hb]
    rfl
  rw [e, and_top_nat]
  omega

theorem top_true {v : Int} (h0 : -2147483648 ≤ v) (h1 : v ≤ 2147483647) (h : (bits BinOp.and IntKind.u32 (v % 4294967296) 4278190080 == 0) = true) : 0 ≤ v ∧ v < 16777216 := by
  rw [and_top _ (by omega) (by omega)] at h
  have := eq_of_beq h
  omega
theorem top_false {v : Int} (h0 : -2147483648 ≤ v) (h1 : v ≤ 2147483647) (h : (bits BinOp.and IntKind.u32 (v % 4294967296) 4278190080 == 0) = false) : v < 0 ∨ 16777216 ≤ v := by
  rw [and_top _ (by omega) (by omega)] at h
  have := ne_of_beq_false h
  omega
theorem top_true' {v : Int} (h0 : 0 ≤ v) (h1 : v ≤ 2147483647) (h : (bits BinOp.and IntKind.u32 v 4278190080 == 0) = true) : 0 ≤ v ∧ v < 16777216 := by
  rw [and_top _ (by omega) (by omega)] at h
  have := eq_of_beq h
  omega
theorem top_false' {v : Int} (h0 : 0 ≤ v) (h1 : v ≤ 2147483647) (h : (bits BinOp.and IntKind.u32 v 4278190080 == 0) = false) : v < 0 ∨ 16777216 ≤ v := by
  rw [and_top _ (by omega) (by omega)] at h
  have := ne_of_beq_false h
  omega

/-- Inside: the upper byte of 24 bits. -/
theorem in8 {v : Int} (h : 0 ≤ v ∧ v < 16777216) : v / 65536 % 256 = cl8 v := by unfold cl8; omega
/-- Outside: the complement of the sign. -/
theorem out8 {v : Int} (h0 : -2147483648 ≤ v) (h1 : v ≤ 2147483647) (h : v < 0 ∨ 16777216 ≤ v) : bits BinOp.xor IntKind.i32 (-1) (v / 2147483648) % 256 = cl8 v := by
  rcases h with h | h
  · have e : v / 2147483648 = -1 := by omega
    rw [e]; unfold cl8; rw [if_pos h]; decide
  · have e : v / 2147483648 = 0 := by omega
    rw [e]; unfold cl8; rw [if_neg (by omega), if_neg (by omega)]; decide
theorem in16 {v : Int} (h : 0 ≤ v ∧ v < 16777216) : v / 256 = cl16 v := by unfold cl16; omega
theorem out16 {v : Int} (h0 : -2147483648 ≤ v) (h1 : v ≤ 2147483647) (h : v < 0 ∨ 16777216 ≤ v) : bits BinOp.and IntKind.i32 (bits BinOp.xor IntKind.i32 (-1) (v / 2147483648)) 65535 = cl16 v := by
  rcases h with h | h
  · have e : v / 2147483648 = -1 := by omega
    rw [e]; unfold cl16; rw [if_pos h]; decide
  · have e : v / 2147483648 = 0 := by omega
    rw [e]; unfold cl16; rw [if_neg (by omega), if_neg (by omega)]; decide

theorem or_fin : ∀ n : Fin 256, bits BinOp.or IntKind.u32 ((n.val : Nat) : Int) (((n.val : Nat) : Int) * 256) = ((n.val : Nat) : Int) * 257 := by decide +kernel
/-- A byte beside itself. -/
theorem or_twice {v : Int} (h0 : 0 ≤ v) (h1 : v ≤ 255) : bits BinOp.or IntKind.u32 v (v * 256) = v * 257 := by
  obtain ⟨n, rfl⟩ := Int.eq_ofNat_of_zero_le h0
  exact or_fin ⟨n, by omega⟩
theorem in16m {v : Int} (h : 0 ≤ v ∧ v < 16777216) : v / 256 % 4294967296 = cl16 v := by
  rw [in16 h]
  have := cl16_range v
  omega
theorem out16m {v : Int} (h0 : -2147483648 ≤ v) (h1 : v ≤ 2147483647) (h : v < 0 ∨ 16777216 ≤ v) : bits BinOp.and IntKind.i32 (bits BinOp.xor IntKind.i32 (-1) (v / 2147483648)) 65535 % 4294967296 = cl16 v := by
  rw [out16 h0 h1 h]
  have := cl16_range v
  omega
theorem in16s {v m : Int} (h : 0 ≤ v ∧ v < 16777216) : v / 256 % 4294967296 * m % 4294967296 / 65535 = cl16 v * m % 4294967296 / 65535 := by rw [in16m h]
theorem out16s {v m : Int} (h0 : -2147483648 ≤ v) (h1 : v ≤ 2147483647) (h : v < 0 ∨ 16777216 ≤ v) : bits BinOp.and IntKind.i32 (bits BinOp.xor IntKind.i32 (-1) (v / 2147483648)) 65535 % 4294967296 * m % 4294967296 / 65535 = cl16 v * m % 4294967296 / 65535 := by
  rw [out16m h0 h1 h]
end Go.Proofs.Ytbehpaclnpildaa
