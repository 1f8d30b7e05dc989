import Derived.WalkKit
import Derived.Laws.BitsAllLaws
namespace Go.Proofs.Qxb6601911aMods
theorem nat_or_add' (k a b : Nat) (ha : a < 2 ^ k) : a ||| b * 2 ^ k = a + b * 2 ^ k := by
  rw [Nat.or_comm, Nat.mul_comm, ← Nat.two_pow_add_eq_or_of_lt ha b, Nat.add_comm]
theorem i64_or_nat (a b : Nat) (ha : a < 4611686018427387904) (hb : b < 4611686018427387904) : bits .or .i64 (a : Int) (b : Int) = ((a ||| b : Nat) : Int) := by
  have hx : a ||| b < 2 ^ 62 := Nat.or_lt_two_pow (by omega) (by omega)
  show IntKind.i64.wrap ((BitVec.ofInt 64 (a : Int) ||| BitVec.ofInt 64 (b : Int)).toNat : Int) = _
  rw [BitVec.toNat_or, ofInt_u64 a (by omega), ofInt_u64 b (by omega), IntKind.wrap_i64]
  omega
theorem i64_and_nat (a b : Nat) (ha : a < 4611686018427387904) (hb : b < 4611686018427387904) : bits .and .i64 (a : Int) (b : Int) = ((a &&& b : Nat) : Int) := by
  have hx : a &&& b < 2 ^ 62 := Nat.and_lt_two_pow _ (by omega)
  show IntKind.i64.wrap ((BitVec.ofInt 64 (a : Int) &&& BitVec.ofInt 64 (b : Int)).toNat : Int) = _
  rw [BitVec.toNat_and, ofInt_u64 a (by omega), ofInt_u64 b (by omega), IntKind.wrap_i64]
  omega
/-- b & 3 -/
theorem and3 (x : Int) (h0 : 0 ≤ x) (h1 : x < 256) : bits .and .i64 x 3 = x % 4 := by
  obtain ⟨a, rfl⟩ := Int.eq_ofNat_of_zero_le h0
  rw [show (3 : Int) = ((3 : Nat) : Int) from rfl, i64_and_nat a 3 (by omega) (by omega), show (3 : Nat) = 2 ^ 2 - 1 from rfl, Nat.and_two_pow_sub_one_eq_mod]
  omega
/-- b & 4 -/
theorem and4 (x : Int) (h0 : 0 ≤ x) (h1 : x < 256) : bits .and .i64 x 4 = x / 4 % 2 * 4 := by
  obtain ⟨a, rfl⟩ := Int.eq_ofNat_of_zero_le h0
  have e : a &&& 4 = a % 8 / 4 * 4 := nat_midmask 3 2 a (by decide)
  rw [show (4 : Int) = ((4 : Nat) : Int) from rfl, i64_and_nat a 4 (by omega) (by omega), e]
  omega
/-- lo | hi << k -/
theorem or_shl (k : Nat) (lo hi : Int) (h0 : 0 ≤ lo) (h1 : lo < ((2 ^ k : Nat) : Int)) (h2 : 0 ≤ hi) (hk : k ≤ 12) (h3 : hi < 256) : bits .or .i64 lo (hi * ((2 ^ k : Nat) : Int)) = lo + hi * ((2 ^ k : Nat) : Int) := by
  obtain ⟨a, rfl⟩ := Int.eq_ofNat_of_zero_le h0
  obtain ⟨b, rfl⟩ := Int.eq_ofNat_of_zero_le h2
  have hp : 2 ^ k ≤ 4096 := Nat.le_trans (Nat.pow_le_pow_right (by decide) hk) (by decide)
  have ha : a < 2 ^ k := by omega
  have hb : b * 2 ^ k < 4611686018427387904 := by
    have := Nat.mul_le_mul (show b ≤ 255 by omega) hp
    omega
  rw [← Int.natCast_mul, i64_or_nat a (b * 2 ^ k) (by omega) hb, nat_or_add' k a b ha]
  omega
end Go.Proofs.Qxb6601911aMods
