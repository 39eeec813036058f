/-
  BITS as sums.
-/
import Derived.Test.YtghabdpbacgicaaGreatDoorLm
import Derived.Laws.Bits64b
namespace Go.Proofs.YtghabdpbacgicaaGreatDoor.Lm
open Go.RowKit Go.Proofs.YtghabdpbacgicaaGreatDoorW.PrintWords
set_option linter.unusedVariables false

theorem and32 (t : Nat) (h : t < 18446744073709551616) : Go.bits .and .u64 (t : Int) 4294967295 = ((t % 4294967296 : Nat) : Int) := by
  have := bits_and_u64_nat t 4294967295 h (by omega)
  rw [show ((4294967295 : Nat) : Int) = 4294967295 from rfl] at this
  rw [this, show (4294967295 : Nat) = 2 ^ 32 - 1 from rfl, Nat.and_two_pow_sub_one_eq_mod]
theorem or_nat (a b m : Nat) (ha : a < 2 ^ m) : a ||| b * 2 ^ m = a + b * 2 ^ m := by
  have h := Nat.two_pow_add_eq_or_of_lt ha b
  rw [Nat.or_comm, Nat.mul_comm b, ← h, Nat.add_comm]
theorem or64 (a b m : Nat) (ha : a < 2 ^ m) (h : a + b * 2 ^ m < 18446744073709551616) : Go.bits .or .u64 (a : Int) ((b * 2 ^ m : Nat) : Int) = ((a + b * 2 ^ m : Nat) : Int) := by
  rw [bits_or_u64_nat a (b * 2 ^ m) (by omega) (by omega), or_nat a b m ha]
theorem or64' (a b m : Nat) (ha : a < 2 ^ m) (h : a + b * 2 ^ m < 18446744073709551616) : Go.bits .or .u64 ((b * 2 ^ m : Nat) : Int) (a : Int) = ((a + b * 2 ^ m : Nat) : Int) := by
  rw [bits_or_u64_nat (b * 2 ^ m) a (by omega) (by omega), Nat.or_comm, or_nat a b m ha]
theorem bits_or_u32_nat (a b : Nat) (ha : a < 4294967296) (hb : b < 4294967296) : Go.bits .or .u32 (a : Int) (b : Int) = ((a ||| b : Nat) : Int) := by
  have hx : a ||| b < 2 ^ 32 := Nat.or_lt_two_pow (by omega) (by omega)
  have h1 : (BitVec.ofInt 32 (a : Int)).toNat = a := by
    rw [BitVec.ofInt_natCast, BitVec.toNat_ofNat]; exact Nat.mod_eq_of_lt (by omega)
  have h2 : (BitVec.ofInt 32 (b : Int)).toNat = b := by
    rw [BitVec.ofInt_natCast, BitVec.toNat_ofNat]; exact Nat.mod_eq_of_lt (by omega)
  show IntKind.u32.wrap ((BitVec.ofInt 32 (a : Int) ||| BitVec.ofInt 32 (b : Int)).toNat : Int) = _
  rw [BitVec.toNat_or, h1, h2]
  simp [IntKind.wrap, IntKind.bits, IntKind.signed]
  omega
theorem or32 (a b m : Nat) (ha : a < 2 ^ m) (h : a + b * 2 ^ m < 4294967296) : Go.bits .or .u32 (a : Int) ((b * 2 ^ m : Nat) : Int) = ((a + b * 2 ^ m : Nat) : Int) := by
  rw [bits_or_u32_nat a (b * 2 ^ m) (by omega) (by omega), or_nat a b m ha]
/-- (4294967296 ahead of x: behind it, the kernel unfolds the product) -/
theorem or_w (u x : Nat) (hu : u < 4294967296) (hx : x < 4294967296) : Go.bits .or .u64 (u : Int) ((4294967296 * x : Nat) : Int) = ((u + 4294967296 * x : Nat) : Int) := by
  have h := or64 u x 32 hu (by omega)
  rw [Nat.mul_comm x] at h
  exact h
theorem or_w' (u x : Nat) (hu : u < 4294967296) (hx : x < 4294967296) : Go.bits .or .u64 ((4294967296 * x : Nat) : Int) (u : Int) = ((u + 4294967296 * x : Nat) : Int) := by
  have h := or64' u x 32 hu (by omega)
  rw [Nat.mul_comm x] at h
  exact h
theorem u64_32 (x : Nat) (hx : x < 4294967296) : IntKind.u64.wrap ((x : Int) * 4294967296) = ((4294967296 * x : Nat) : Int) := by
  rw [show (x : Int) * 4294967296 = ((4294967296 * x : Nat) : Int) by omega]
  exact wu64 (by omega) (by omega)
end Go.Proofs.YtghabdpbacgicaaGreatDoor.Lm
