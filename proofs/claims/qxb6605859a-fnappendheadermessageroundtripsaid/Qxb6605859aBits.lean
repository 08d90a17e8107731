import Derived.Laws.BitsLemmas
import Derived.WalkKit
namespace Go.Proofs.Qxb6605859a

theorem wraps_i64 (n : Int) (h0 : 0 ≤ n) (h1 : n < 2 ^ 62) : IntKind.i64.wrap n = n := by rw [IntKind.wrap_i64]; omega

theorem or16 (x y : Int) (hx0 : 0 ≤ x) (hx1 : x ≤ 255) (hy0 : 0 ≤ y) (hy1 : y ≤ 255) : bits .or .i64 (x * 65536) (y * 256) = x * 65536 + y * 256 :=
  bits_join .i64 62 (by decide) wraps_i64 16 (x * 65536) (y * 256) (by omega) (by omega) (by omega) (by omega) (by omega) (by omega)

theorem or8 (x y : Int) (hx0 : 0 ≤ x) (hx1 : x ≤ 1048576) (hy0 : 0 ≤ y) (hy1 : y ≤ 255) : bits .or .i64 (x * 256) y = x * 256 + y :=
  bits_join .i64 62 (by decide) wraps_i64 8 (x * 256) y (by omega) (by omega) (by omega) (by omega) (by omega) (by omega)

theorem and24 (n : Int) : bits .and .i64 n 16777215 = n % 16777216 := by
  have e : bits .and .i64 n 16777215 = IntKind.i64.wrap ((BitVec.ofInt 64 n &&& BitVec.ofInt 64 16777215).toNat : Int) := rfl
  rw [e, BitVec.toNat_and, BitVec.toNat_ofInt]
  have e2 : (BitVec.ofInt 64 16777215).toNat = 2 ^ 24 - 1 := by decide
  rw [e2, Nat.and_two_pow_sub_one_eq_mod, IntKind.wrap_i64]
  omega

theorem got_is (n x y z : Int) (hx : x = n / 65536 % 256) (hy : y = n / 256 % 256) (hz : z = n % 256) :
    (bits .or .i64 (bits .or .i64 (x * 65536) (y * 256)) z == bits .and .i64 n 16777215) = true := by
  rw [or16 x y (by omega) (by omega) (by omega) (by omega), show x * 65536 + y * 256 = (x * 256 + y) * 256 from by omega, or8 (x * 256 + y) z (by omega) (by omega) (by omega) (by omega), and24]
  rw [beq_iff_eq]
  omega

end Go.Proofs.Qxb6605859a
