import Derived.Test.Qxb6604283aBase
import Derived.Test.Qxb6604283aEnc
namespace Go.Proofs.Qxb6604283a
open Go.RowKit

/-! ### the bit operations of a byte, each a sum or a rest -/
theorem or128_all : ∀ n : Nat, n < 256 → bits .or .u8 128 (n : Int) = 128 + (n : Int) % 128 := by decide +kernel
theorem or128 (y : Int) (h0 : 0 ≤ y) (h1 : y < 256) : bits .or .u8 128 y = 128 + y % 128 := by
  obtain ⟨n, rfl⟩ := Int.eq_ofNat_of_zero_le h0
  exact or128_all n (by omega)
theorem and127_all : ∀ n : Nat, n < 256 → bits .and .u8 (n : Int) 127 = (n : Int) % 128 := by decide +kernel
theorem and127 (y : Int) (h0 : 0 ≤ y) (h1 : y < 256) : bits .and .u8 y 127 = y % 128 := by
  obtain ⟨n, rfl⟩ := Int.eq_ofNat_of_zero_le h0
  exact and127_all n (by omega)

theorem pow7 (i : Nat) : (2 : Int) ^ (7 * i) = ((128 ^ i : Nat) : Int) := by
  rw [Int.pow_mul]
  simp
theorem shr7 (v i : Nat) : (v : Int) / 2 ^ (7 * i) % 256 % 128 = ((dg 128 v i : Nat) : Int) := by
  rw [pow7]
  unfold dg
  generalize 128 ^ i = d
  have h : ((v : Int) / (d : Int)) = ((v / d : Nat) : Int) := by simp
  rw [h]
  generalize v / d = q
  omega
theorem hi_byte (v i : Nat) : bits .or .u8 128 ((v : Int) / 2 ^ (7 * i) % 256) = ((128 + dg 128 v i : Nat) : Int) := by
  rw [or128 _ (by omega) (by omega), shr7]
  omega
theorem lo_byte (v : Nat) : bits .and .u8 ((v : Int) % 256) 127 = ((dg 128 v 0 : Nat) : Int) := by
  rw [and127 _ (by omega) (by omega)]
  unfold dg
  simp

theorem pow8 (i : Nat) : (2 : Int) ^ (8 * i) = ((256 ^ i : Nat) : Int) := by
  rw [Int.pow_mul]
  simp
theorem shr8 (v i : Nat) : (v : Int) / 2 ^ (8 * i) % 256 = ((dg 256 v i : Nat) : Int) := by
  rw [pow8]
  unfold dg
  generalize 256 ^ i = d
  have h : ((v : Int) / (d : Int)) = ((v / d : Nat) : Int) := by simp
  rw [h]
  generalize v / d = q
  omega

end Go.Proofs.Qxb6604283a
