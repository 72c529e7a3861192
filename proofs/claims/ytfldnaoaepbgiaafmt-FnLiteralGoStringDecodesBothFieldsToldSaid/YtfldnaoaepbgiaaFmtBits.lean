/- The bit operations of the reader, as arithmetic. No program. -/
import Derived.Laws.Bits128
import Derived.Laws.BitsAllLaws
namespace Go.Proofs.YtfldnaoaepbgiaaFmt
open Go

theorem i64_and63 (n : Int) : bits .and .i64 n 63 = n % 64 := by
  have h127 : (BitVec.ofInt 64 63).toNat = 2 ^ 6 - 1 := by decide
  have key : (BitVec.ofInt 64 n &&& BitVec.ofInt 64 63).toNat = (n % ((2 ^ 64 : Nat) : Int)).toNat % 2 ^ 6 := by
    rw [BitVec.toNat_and, BitVec.toNat_ofInt, h127, Nat.and_two_pow_sub_one_eq_mod]
  show IntKind.i64.wrap ((BitVec.ofInt 64 n &&& BitVec.ofInt 64 63).toNat : Nat) = n % 64
  rw [key, IntKind.wrap_i64]
  omega

theorem u8_and_mask (c m k : Nat) (hc : c < 256) (hm : m < 256) (hk : m = 2 ^ k - 1) : bits .and .u8 (c : Int) (m : Int) = ((c % 2 ^ k : Nat) : Int) := by
  rw [u8_and_nat c m hc hm, hk, Nat.and_two_pow_sub_one_eq_mod]

theorem and192 : ∀ c : Fin 256, c.val &&& 192 = c.val / 64 * 64 := by decide +kernel
theorem u8_and192 (c : Nat) (hc : c < 256) : bits .and .u8 (c : Int) 192 = ((c / 64 * 64 : Nat) : Int) := by
  have h := u8_and_nat c 192 hc (by omega)
  rw [and192 ⟨c, hc⟩] at h
  exact h

/-- Two numbers whose bits do not meet. -/
theorem i64_or (k : Nat) (a x : Nat) (hk : k ≤ 6) (ha : a % 2 ^ k = 0) (hx : x < 2 ^ k) (hb : a < 16777216) : bits .or .i64 (a : Int) (x : Int) = ((a + x : Nat) : Int) := by
  have e : a ||| x = a + x := by
    have h1 : a = a / 2 ^ k * 2 ^ k := by
      have := Nat.div_add_mod a (2 ^ k)
      rw [ha, Nat.add_zero, Nat.mul_comm] at this
      exact this.symm
    rw [h1, ← Nat.shiftLeft_eq]
    exact (Nat.shiftLeft_add_eq_or_of_lt hx _).symm
  have hx' : x < 64 := Nat.lt_of_lt_of_le hx (Nat.pow_le_pow_right (by omega) hk)
  have o1 : (BitVec.ofInt 64 (a : Int)).toNat = a := by rw [BitVec.ofInt_natCast, BitVec.toNat_ofNat]; exact Nat.mod_eq_of_lt (by omega)
  have o2 : (BitVec.ofInt 64 (x : Int)).toNat = x := by rw [BitVec.ofInt_natCast, BitVec.toNat_ofNat]; exact Nat.mod_eq_of_lt (by omega)
  show IntKind.i64.wrap ((BitVec.ofInt 64 (a : Int) ||| BitVec.ofInt 64 (x : Int)).toNat : Int) = _
  rw [BitVec.toNat_or, o1, o2, e, IntKind.wrap_i64]
  omega
end Go.Proofs.YtfldnaoaepbgiaaFmt
