/-
  THE WALKS of roundUp (18) and ZZRoundUp (9): each computes 'Plain.rup'.
-/
import Derived.Test.Qxb6002360aRows
import Derived.Test.Qxb6002360aPlain
import Derived.WalkKit
import Derived.WalkSpells
namespace Go.Proofs.Qxb6002360a
open Go.RowKit Go.Proofs.Qxb6002360a.Plain

/-- 'A is one of the powers of two from 2^0 to 2^60'. -/
def Pow2 (A : Int) : Prop := ∃ k : Nat, k ≤ 60 ∧ A = 2 ^ k
theorem Pow2.lo {A : Int} (h : Pow2 A) : 1 ≤ A := by
  obtain ⟨k, _, rfl⟩ := h
  have := two_pow_pos k
  omega
theorem Pow2.hi {A : Int} (h : Pow2 A) : A ≤ 1152921504606846976 := by
  obtain ⟨k, hk, rfl⟩ := h
  exact two_pow_60 k hk
/-- As the walk writes 'int64(1) << uint(k)'. -/
theorem wrap_pow2 (k : Nat) (h : k ≤ 60) : wrap64 (2 ^ k) = 2 ^ k := by
  have u := two_pow_60 k h
  have l := two_pow_pos k
  unfold wrap64
  generalize (2 : Int) ^ k = A at *
  omega
theorem pow2_wrap (k : Nat) (h : k ≤ 60) : Pow2 (wrap64 (2 ^ k)) := ⟨k, h, wrap_pow2 k h⟩
theorem pow2_dvd (j k : Nat) (h : j ≤ k) (hk : k ≤ 60) : wrap64 (2 ^ j) ∣ wrap64 (2 ^ k) := by
  rw [wrap_pow2 j (by omega), wrap_pow2 k hk]
  exact two_pow_dvd j k h
theorem Pow2.mask {A : Int} (h : Pow2 A) (n : Int) (h1 : -2305843009213693952 ≤ n) (h2 : n ≤ 3458764513820540928) :
    bits .andNot .i64 (n + A - 1) (A - 1) = rup n A := by
  have l := h.lo
  have u := h.hi
  obtain ⟨k, hk, rfl⟩ := h
  exact andNot_mask _ k (by omega) (by omega) (by omega)

set_option maxHeartbeats 400000 in
theorem roundUp_any (n A : Int) (HA : Pow2 A) (h1 : -2305843009213693952 ≤ n) (h2 : n ≤ 3458764513820540928) (w : World) :
    Calls Try.prog 18 #[.int .i64 n, .int .i64 A] w fun e w' => e = .returned (.int .i64 (rup n A)) ∧ w' = w := by
  have l := HA.lo
  have u := HA.hi
  have m := HA.mask n h1 h2
  go_enter Try.func18, Try.ntmps18
  go_wp2
  go_ret
  exact ⟨rfl, rfl⟩

set_option maxHeartbeats 400000 in
theorem zzRoundUp_any (n A : Int) (HA : Pow2 A) (h1 : -2305843009213693952 ≤ n) (h2 : n ≤ 3458764513820540928) (w : World) :
    Calls Try.prog 9 #[.int .i64 n, .int .i64 A] w fun e w' => e = .returned (.int .i64 (rup n A)) ∧ w' = w := by
  go_enter Try.func9, Try.ntmps9
  go_wp2_with (go_at_call 18; refine (roundUp_any n A HA h1 h2 _).mono ?_; rintro e w' ⟨rfl, rfl⟩)
  go_ret
  exact ⟨rfl, rfl⟩
theorem rup_tmod (n A : Int) : (rup n A).tmod A = 0 := Int.tmod_eq_zero_of_dvd (rup_dvd n A)
end Go.Proofs.Qxb6002360a
