import Derived.WalkKit
import Derived.Laws.BitsAllLaws
namespace Go.Proofs.Qxb6601507aMods
theorem i64_or_nat (a b : Nat) (ha : a < 4611686018427387904) (hb : b < 4611686018427387904) : bits .or .i64 (a : Int) (b : Int) = ((a ||| b : Nat) : Int) := by
  have hx : a ||| b < 2 ^ 62 := Nat.or_lt_two_pow (by omega) (by omega)
  show IntKind.i64.wrap ((BitVec.ofInt 64 (a : Int) ||| BitVec.ofInt 64 (b : Int)).toNat : Int) = _
  rw [BitVec.toNat_or, ofInt_u64 a (by omega), ofInt_u64 b (by omega), IntKind.wrap_i64]
  omega
theorem nat_or_add (k a b : Nat) (ha : a < 2 ^ k) : a ||| b * 2 ^ k = a + b * 2 ^ k := by
  rw [Nat.or_comm, Nat.mul_comm, ← Nat.two_pow_add_eq_or_of_lt ha b, Nat.add_comm]
/-- the key's first four bytes give its number back -/
theorem id_back (i : Nat) (hi : i < 131072) : bits .or .i64 (bits .or .i64 (bits .or .i64 ((i : Int) % 256) ((i : Int) / 256 % 256 * 256)) ((i : Int) / 65536 * 65536)) ((i : Int) / 16777216 * 16777216) = (i : Int) := by
  have e0 : (i : Int) % 256 = ((i % 256 : Nat) : Int) := by omega
  have e1 : (i : Int) / 256 % 256 * 256 = ((i / 256 % 256 * 2 ^ 8 : Nat) : Int) := by omega
  have e2 : (i : Int) / 65536 * 65536 = ((i / 65536 * 2 ^ 16 : Nat) : Int) := by omega
  have e3 : (i : Int) / 16777216 * 16777216 = ((i / 16777216 * 2 ^ 24 : Nat) : Int) := by omega
  rw [e0, e1, e2, e3]
  rw [i64_or_nat _ _ (by omega) (by omega), nat_or_add 8 _ _ (by omega)]
  rw [i64_or_nat _ _ (by omega) (by omega), nat_or_add 16 _ _ (by omega)]
  rw [i64_or_nat _ _ (by omega) (by omega), nat_or_add 24 _ _ (by omega)]
  omega
end Go.Proofs.Qxb6601507aMods
