/-
  THE WALK of zzMul64 (11): the two halves of the 128-bit product, for factors below 2^63.
-/
import Derived.Test.Qxb6002360aRows
import Derived.WalkKit
import Derived.WalkSpells
import Derived.Laws.MathBits
namespace Go.Proofs.Qxb6002360a
open Go.RowKit

/-! ### The plain law: the halves as the walk writes them -/
theorem u64_mod (n : Int) : IntKind.u64.wrap n = n % 18446744073709551616 := by simp [IntKind.wrap, IntKind.bits, IntKind.signed]
theorem u64_keeps (n : Int) (h0 : 0 ≤ n) (h1 : n < 2 ^ 64) : IntKind.u64.wrap n = n := by rw [u64_mod]; omega
theorem low_of (n : Int) : bits .and .u64 (n % 18446744073709551616) 4294967295 = n % 4294967296 := by
  rw [and_low32 _ (by omega) (by omega)]; omega

theorem mul_hi (x y : Int) (hx0 : 0 ≤ x) (hx : x ≤ 9223372036854775807) (hy0 : 0 ≤ y) (hy : y ≤ 9223372036854775807) :
    IntKind.u64.wrap (IntKind.u64.wrap (IntKind.u64.wrap (x / 4294967296 * (y / 4294967296)) +
        IntKind.u64.wrap (IntKind.u64.wrap (x / 4294967296 * (y % 4294967296)) + IntKind.u64.wrap (x % 4294967296 * (y % 4294967296)) / 4294967296) / 4294967296) +
      IntKind.u64.wrap (IntKind.u64.wrap (x % 4294967296 * (y / 4294967296)) +
        bits BinOp.and IntKind.u64 (IntKind.u64.wrap (IntKind.u64.wrap (x / 4294967296 * (y % 4294967296)) + IntKind.u64.wrap (x % 4294967296 * (y % 4294967296)) / 4294967296)) 4294967295) / 4294967296)
      = x * y / 18446744073709551616 := by
  simp only [u64_mod, low_of]
  have ex : x = x / 4294967296 * 4294967296 + x % 4294967296 := by omega
  have ey : y = y / 4294967296 * 4294967296 + y % 4294967296 := by omega
  generalize hx1 : x / 4294967296 = x1 at *
  generalize hx0' : x % 4294967296 = x0 at *
  generalize hy1 : y / 4294967296 = y1 at *
  generalize hy0' : y % 4294967296 = y0 at *
  have b1 : 0 ≤ x1 ∧ x1 ≤ 4294967295 := by omega
  have b2 : 0 ≤ x0 ∧ x0 ≤ 4294967295 := by omega
  have b3 : 0 ≤ y1 ∧ y1 ≤ 4294967295 := by omega
  have b4 : 0 ≤ y0 ∧ y0 ≤ 4294967295 := by omega
  have pA := prod_bound x1 y1 b1.1 b1.2 b3.1 b3.2
  have pB := prod_bound x1 y0 b1.1 b1.2 b4.1 b4.2
  have pC := prod_bound x0 y0 b2.1 b2.2 b4.1 b4.2
  have pD := prod_bound x0 y1 b2.1 b2.2 b3.1 b3.2
  have hxy : x * y = x1 * y1 * 18446744073709551616 + (x1 * y0 + x0 * y1) * 4294967296 + x0 * y0 := by rw [ex, ey]; exact split_mul x1 x0 y1 y0
  rw [hxy]
  generalize x1 * y1 = A at *
  generalize x1 * y0 = B at *
  generalize x0 * y0 = C at *
  generalize x0 * y1 = D at *
  clear hxy ex ey hx1 hx0' hy1 hy0' hx0 hx hy0 hy b1 b2 b3 b4
  omega

theorem mul_lo (x y : Int) (hx0 : 0 ≤ x) (hx : x ≤ 9223372036854775807) (hy0 : 0 ≤ y) (hy : y ≤ 9223372036854775807) :
    bits BinOp.or IntKind.u64
      (IntKind.u64.wrap (IntKind.u64.wrap (IntKind.u64.wrap (x % 4294967296 * (y / 4294967296)) +
        bits BinOp.and IntKind.u64 (IntKind.u64.wrap (IntKind.u64.wrap (x / 4294967296 * (y % 4294967296)) + IntKind.u64.wrap (x % 4294967296 * (y % 4294967296)) / 4294967296)) 4294967295) * 4294967296))
      (bits BinOp.and IntKind.u64 (IntKind.u64.wrap (x % 4294967296 * (y % 4294967296))) 4294967295)
      = x * y % 18446744073709551616 := by
  simp only [u64_mod, low_of]
  have ex : x = x / 4294967296 * 4294967296 + x % 4294967296 := by omega
  have ey : y = y / 4294967296 * 4294967296 + y % 4294967296 := by omega
  generalize hx1 : x / 4294967296 = x1 at *
  generalize hx0' : x % 4294967296 = x0 at *
  generalize hy1 : y / 4294967296 = y1 at *
  generalize hy0' : y % 4294967296 = y0 at *
  have b1 : 0 ≤ x1 ∧ x1 ≤ 4294967295 := by omega
  have b2 : 0 ≤ x0 ∧ x0 ≤ 4294967295 := by omega
  have b3 : 0 ≤ y1 ∧ y1 ≤ 4294967295 := by omega
  have b4 : 0 ≤ y0 ∧ y0 ≤ 4294967295 := by omega
  have pA := prod_bound x1 y1 b1.1 b1.2 b3.1 b3.2
  have pB := prod_bound x1 y0 b1.1 b1.2 b4.1 b4.2
  have pC := prod_bound x0 y0 b2.1 b2.2 b4.1 b4.2
  have pD := prod_bound x0 y1 b2.1 b2.2 b3.1 b3.2
  have hxy : x * y = x1 * y1 * 18446744073709551616 + (x1 * y0 + x0 * y1) * 4294967296 + x0 * y0 := by rw [ex, ey]; exact split_mul x1 x0 y1 y0
  rw [hxy]
  generalize x1 * y1 = A at *
  generalize x1 * y0 = B at *
  generalize x0 * y0 = C at *
  generalize x0 * y1 = D at *
  clear hxy ex ey hx1 hx0' hy1 hy0' hx0 hx hy0 hy b1 b2 b3 b4
  rw [bits_join .u64 64 (by decide) u64_keeps 32 _ _ (by omega) (by omega) (by omega) (by omega) (by omega) (by omega)]
  omega

theorem ret_two {a a' b b' : Int} (h1 : a = a') (h2 : b = b') :
    Ending.returned (.tuple #[.int .u64 a, .int .u64 b]) = .returned (.tuple #[.int .u64 a', .int .u64 b']) := by rw [h1, h2]

set_option maxHeartbeats 400000 in
theorem mul64_any (x y : Int) (hx0 : 0 ≤ x) (hx : x ≤ 9223372036854775807) (hy0 : 0 ≤ y) (hy : y ≤ 9223372036854775807) (H L : Int)
    (E : Hid (x * y / 18446744073709551616 = H ∧ x * y % 18446744073709551616 = L)) (w : World) :
    Calls Try.prog 11 #[.int .u64 x, .int .u64 y] w fun e w' => e = .returned (.tuple #[.int .u64 H, .int .u64 L]) ∧ w' = w := by
  have e1 := and_low32 x hx0 (by omega)
  have e2 := and_low32 y hy0 (by omega)
  go_enter Try.func11, Try.ntmps11
  go_wp2
  go_ret2
  exact ⟨ret_two ((mul_hi x y hx0 hx hy0 hy).trans E.out.1) ((mul_lo x y hx0 hx hy0 hy).trans E.out.2), rfl⟩
end Go.Proofs.Qxb6002360a
