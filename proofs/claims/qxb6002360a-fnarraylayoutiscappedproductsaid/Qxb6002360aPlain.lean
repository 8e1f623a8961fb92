/-
  THE PLAIN MATHEMATICS of this seat: rounding up to a multiple, the mask of a power of two, the capped size of an array. No Go program in sight.
-/
import Derived.Laws.BitsLemmas
import Derived.Laws.MathBits
namespace Go.Proofs.Qxb6002360a.Plain

/-! ### Rounding up: the least multiple of A at or above n -/
def rup (n A : Int) : Int := (n + A - 1) - (n + A - 1) % A

theorem rup_ge (n A : Int) (h : 0 < A) : n ≤ rup n A := by
  unfold rup
  have := Int.emod_lt_of_pos (n + A - 1) h
  omega
theorem rup_lt (n A : Int) (h : 0 < A) : rup n A < n + A := by
  unfold rup
  have := Int.emod_nonneg (n + A - 1) (Int.ne_of_gt h)
  omega
theorem rup_dvd (n A : Int) : A ∣ rup n A := by
  unfold rup
  exact Int.dvd_self_sub_emod
theorem dvd_gap (A x y : Int) (hx : A ∣ x) (hy : A ∣ y) (hlt : x < y) : x + A ≤ y := by
  have hd : A ∣ y - x := Int.dvd_sub hy hx
  have := Int.le_of_dvd (by omega) hd
  omega
theorem rup_least (n A m : Int) (h : 0 < A) (hm : A ∣ m) (hn : n ≤ m) : rup n A ≤ m := by
  have h1 := rup_lt n A h
  by_cases h2 : m < rup n A
  · have := dvd_gap A m (rup n A) hm (rup_dvd n A) h2
    omega
  · omega
theorem rup_mono (a b A : Int) (h : 0 < A) (hab : a ≤ b) : rup a A ≤ rup b A :=
  rup_least a A _ h (rup_dvd b A) (Int.le_trans hab (rup_ge b A h))
theorem rup_idem (a A : Int) (h : 0 < A) : rup (rup a A) A = rup a A :=
  Int.le_antisymm (rup_least _ A _ h (rup_dvd a A) (Int.le_refl _)) (rup_ge _ A h)
theorem rup_shift (a A : Int) : rup (a + A) A = rup a A + A := by
  unfold rup
  have : (a + A + A - 1) % A = (a + A - 1) % A := by
    rw [show a + A + A - 1 = (a + A - 1) + A by omega, Int.add_emod_right]
  omega
theorem rup_fine (a F C : Int) (hF : 0 < F) (hC : 0 < C) (hd : F ∣ C) : rup a F ≤ rup a C :=
  rup_least a F _ hF (Int.dvd_trans hd (rup_dvd a C)) (rup_ge a C hC)
theorem rup_absorb (a F C : Int) (hF : 0 < F) (hC : 0 < C) (hd : F ∣ C) : rup (rup a F) C = rup a C :=
  Int.le_antisymm (rup_least _ C _ hC (rup_dvd a C) (rup_fine a F C hF hC hd))
    (rup_least _ C _ hC (rup_dvd _ C) (Int.le_trans (rup_ge a F hF) (rup_ge _ C hC)))

/-! ### Powers of two as Ints -/
theorem two_pow_pos (k : Nat) : (0 : Int) < 2 ^ k := Int.pow_pos (by decide)
theorem two_pow_le (j k : Nat) (h : j ≤ k) : (2 : Int) ^ j ≤ 2 ^ k := by
  have := Nat.pow_le_pow_right (show 0 < 2 by decide) h
  have e : ∀ n : Nat, ((2 ^ n : Nat) : Int) = (2 : Int) ^ n := fun n => by simp
  rw [← e, ← e]; omega
theorem two_pow_dvd (j k : Nat) (h : j ≤ k) : (2 : Int) ^ j ∣ 2 ^ k := by
  refine ⟨2 ^ (k - j), ?_⟩
  rw [← Int.pow_add, show j + (k - j) = k by omega]
theorem two_pow_60 (k : Nat) (h : k ≤ 60) : (2 : Int) ^ k ≤ 1152921504606846976 := by
  have := two_pow_le k 60 h
  simpa using this

/-! ### The mask -/
theorem nat_andNot_mask (n k : Nat) (hn : n < 2 ^ 64) (hk : k ≤ 64) : n &&& (2 ^ 64 - 1 - (2 ^ k - 1)) = n - n % 2 ^ k := by
  have e : n - n % 2 ^ k = (n / 2 ^ k) * 2 ^ k := by
    have := Nat.div_add_mod n (2 ^ k)
    rw [Nat.mul_comm]; omega
  rw [e, ← Nat.shiftRight_eq_div_pow, ← Nat.shiftLeft_eq]
  apply Nat.eq_of_testBit_eq
  intro i
  rw [Nat.testBit_and, Nat.testBit_shiftLeft, Nat.testBit_shiftRight]
  have hlt : 2 ^ k - 1 < 2 ^ 64 := by
    have := Nat.pow_le_pow_right (show 0 < 2 by decide) hk
    have := Nat.two_pow_pos k
    omega
  rw [show 2 ^ 64 - 1 - (2 ^ k - 1) = 2 ^ 64 - (2 ^ k - 1 + 1) by omega, Nat.testBit_two_pow_sub_succ hlt, Nat.testBit_two_pow_sub_one]
  by_cases h : k ≤ i
  · rw [show k + (i - k) = i by omega]
    by_cases h2 : i < 64
    · simp [h, h2]
    · have : n.testBit i = false := Nat.testBit_lt_two_pow (Nat.lt_of_lt_of_le hn (Nat.pow_le_pow_right (by decide) (by omega)))
      simp [this]
  · simp [h]; omega
theorem andNot_mask (x : Int) (k : Nat) (hk : k ≤ 62) (h0 : -4611686018427387904 ≤ x) (h1 : x < 4611686018427387904) :
    bits .andNot .i64 x (2 ^ k - 1) = x - x % 2 ^ k := by
  have hp : (2 ^ k : Nat) ≤ 4611686018427387904 := by
    have := Nat.pow_le_pow_right (show 0 < 2 by decide) hk
    simpa using this
  have hpos : 0 < 2 ^ k := Nat.two_pow_pos k
  have hc : ((2 : Int) ^ k - 1) = ((2 ^ k - 1 : Nat) : Int) := by
    rw [Int.natCast_sub hpos]; simp
  have hc2 : ((2 : Int) ^ k) = ((2 ^ k : Nat) : Int) := by simp
  have hdvd : (2 ^ k : Nat) ∣ 18446744073709551616 := ⟨2 ^ (64 - k), by rw [← Nat.pow_add, show k + (64 - k) = 64 by omega]⟩
  rw [hc]
  show IntKind.i64.wrap ((BitVec.ofInt 64 x &&& ~~~ BitVec.ofInt 64 ((2 ^ k - 1 : Nat) : Int)).toNat : Nat) = _
  have key : (BitVec.ofInt 64 x &&& ~~~ BitVec.ofInt 64 ((2 ^ k - 1 : Nat) : Int)).toNat = (x % 18446744073709551616).toNat - (x % 18446744073709551616).toNat % 2 ^ k := by
    rw [BitVec.toNat_and, BitVec.toNat_not, BitVec.toNat_ofInt, BitVec.ofInt_natCast, BitVec.toNat_ofNat, Nat.mod_eq_of_lt (show 2 ^ k - 1 < 2 ^ 64 by omega)]
    exact nat_andNot_mask _ k (by omega) (by omega)
  rw [key, IntKind.wrap_i64, hc2]
  generalize hP : (2 ^ k : Nat) = P at *
  clear key hc hc2
  obtain ⟨Q, hQ⟩ := hdvd
  have e : ((x % 18446744073709551616).toNat % P : Nat) = (x % (P : Int)).toNat := by
    have h64 : (((x % 18446744073709551616).toNat : Nat) : Int) = x % 18446744073709551616 := by omega
    have hQ' : (18446744073709551616 : Int) = (P : Int) * (Q : Int) := by rw [← Int.natCast_mul, ← hQ]; rfl
    have hm : x % 18446744073709551616 % (P : Int) = x % (P : Int) := Int.emod_emod_of_dvd x ⟨(Q : Int), hQ'⟩
    have hnn := Int.emod_nonneg x (show (P : Int) ≠ 0 by omega)
    have hl : (((x % 18446744073709551616).toNat % P : Nat) : Int) = x % (P : Int) := by
      rw [Int.natCast_emod, h64, hm]
    omega
  rw [e]
  have b1 := Int.emod_nonneg x (show (P : Int) ≠ 0 by omega)
  have b2 := Int.emod_lt_of_pos x (show (0 : Int) < P by omega)
  generalize x % (P : Int) = r at *
  have b3 : r.toNat ≤ (x % 18446744073709551616).toNat := by
    rw [← e]; exact Nat.mod_le _ _
  clear e hQ
  omega

/-! ### The array's size -/
def cap : Int := 1125899906842624
theorem mul_le_of_le_div (l s : Int) (hs : 0 < s) (h : l ≤ 1125899906842623 / s) : l * s ≤ 1125899906842623 :=
  (Int.le_ediv_iff_mul_le hs).1 h
theorem mul_gt_of_div_lt (l s : Int) (hs : 0 < s) (h : 1125899906842623 / s < l) : 1125899906842624 ≤ l * s := by
  have := (Int.ediv_lt_iff_lt_mul hs).1 h
  omega
end Go.Proofs.Qxb6002360a.Plain
