/-
  THE WALKS of arrayLayout (19) and ZZArrayLayout (10): the size is 'al', the mark 'over' is 'ov': the product of length and size, up to the cap of 2^50.
-/
import Derived.Test.Qxb6002360aRows
import Derived.Test.Qxb6002360aPlain
import Derived.WalkKit
import Derived.WalkSpells
import Derived.RowKit3
namespace Go.Proofs.Qxb6002360a
open Go.RowKit Plain

/-- The size of an array: the product, up to the cap. -/
def al (l s : Int) : Int := if 1125899906842624 ≤ l * s then 1125899906842624 else l * s
/-- Is the array over? -/
def ov (l s : Int) : Bool := decide (1125899906842624 ≤ l * s)

theorem al_over (l s : Int) (hs : 0 < s) (h : 1125899906842623 / s < l) : al l s = 1125899906842624 ∧ ov l s = true := by
  have := mul_gt_of_div_lt l s hs h
  simp [al, ov, this]
theorem al_under (l s : Int) (h : l * s ≤ 1125899906842623) : al l s = l * s ∧ ov l s = false := by
  have : ¬ 1125899906842624 ≤ l * s := by omega
  simp [al, ov, this]

set_option maxHeartbeats 400000 in
theorem arrayLayout_over (l s a : Int) (o : Bool) (hs : 0 < s) (h : 1125899906842623 / s < l) (w : World) :
    Calls Try.prog 19 #[.int .i64 l, .agg #[.int .i64 s, .int .i64 a, .bool o]] w fun e w' => e = .returned (.agg #[.int .i64 1125899906842624, .int .i64 a, .bool true]) ∧ ∃ c1 c2 : Array Value, w' = (w.alloc (.cells c1 44)).alloc (.cells c2 44) := by
  go_enter Try.func19, Try.ntmps19
  go_wp2
  simp [bodyPost, results, Try.results19, go_sem]
  exact ⟨_, _, rfl⟩
set_option maxHeartbeats 400000 in
theorem arrayLayout_under (l s a : Int) (o : Bool) (hs : 0 < s) (h : l ≤ 1125899906842623 / s) (h0 : 0 ≤ l * s) (h1 : l * s ≤ 1125899906842623) (w : World) :
    Calls Try.prog 19 #[.int .i64 l, .agg #[.int .i64 s, .int .i64 a, .bool o]] w fun e w' => e = .returned (.agg #[.int .i64 (l * s), .int .i64 a, .bool false]) ∧ ∃ c1 c2 : Array Value, w' = (w.alloc (.cells c1 44)).alloc (.cells c2 44) := by
  go_enter Try.func19, Try.ntmps19
  go_wp2
  simp [bodyPost, results, Try.results19, go_sem]
  exact ⟨_, _, rfl⟩
set_option maxHeartbeats 400000 in
theorem arrayLayout_nought (l s a : Int) (o : Bool) (hs : s ≤ 0) (h0 : 0 ≤ l * s) (h1 : l * s ≤ 1125899906842623) (w : World) :
    Calls Try.prog 19 #[.int .i64 l, .agg #[.int .i64 s, .int .i64 a, .bool o]] w fun e w' => e = .returned (.agg #[.int .i64 (l * s), .int .i64 a, .bool false]) ∧ ∃ c1 c2 : Array Value, w' = (w.alloc (.cells c1 44)).alloc (.cells c2 44) := by
  go_enter Try.func19, Try.ntmps19
  go_wp2
  simp [bodyPost, results, Try.results19, go_sem]
  exact ⟨_, _, rfl⟩

theorem arrayLayout_any (l s a : Int) (o : Bool) (hl : 0 ≤ l) (hs : 0 ≤ s) (w : World) :
    Calls Try.prog 19 #[.int .i64 l, .agg #[.int .i64 s, .int .i64 a, .bool o]] w fun e w' => e = .returned (.agg #[.int .i64 (al l s), .int .i64 a, .bool (ov l s)]) ∧ ∃ c1 c2 : Array Value, w' = (w.alloc (.cells c1 44)).alloc (.cells c2 44) := by
  have h0 : 0 ≤ l * s := Int.mul_nonneg hl hs
  by_cases hp : 0 < s
  · by_cases h : 1125899906842623 / s < l
    · obtain ⟨e1, e2⟩ := al_over l s hp h
      rw [e1, e2]
      exact arrayLayout_over l s a o hp h w
    · have h1 := mul_le_of_le_div l s hp (by omega)
      obtain ⟨e1, e2⟩ := al_under l s h1
      rw [e1, e2]
      exact arrayLayout_under l s a o hp (by omega) h0 h1 w
  · have hz : s = 0 := by omega
    have h1 : l * s ≤ 1125899906842623 := by rw [hz]; omega
    obtain ⟨e1, e2⟩ := al_under l s h1
    rw [e1, e2]
    exact arrayLayout_nought l s a o (by omega) h0 h1 w

set_option maxHeartbeats 400000 in
theorem zzArrayLayout_any (l s a : Int) (o : Bool) (hl : 0 ≤ l) (hs : 0 ≤ s) (w : World) :
    Calls Try.prog 10 #[.int .i64 l, .int .i64 s, .int .i64 a, .bool o] w fun e w' => e = .returned (.tuple #[.int .i64 (al l s), .int .i64 a, .bool (ov l s)]) ∧ Grown w w' := by
  go_enter Try.func10, Try.ntmps10
  go_wp2_with (go_at_call 19; refine (arrayLayout_any l s a o hl hs _).mono ?_; rintro e w' ⟨rfl, c1, c2, rfl⟩)
  go_region
  all_goals
    go_wp2
    go_ret3
    exact ⟨rfl, by repeat (first | exact Grown.refl _ | apply Grown.drew | apply Grown.alloc)⟩

theorem grown_trans {a b c : World} (h : Grown a b) (h' : Grown b c) : Grown a c :=
  ⟨World.keptBut_trans h.1 h'.1, fun x => (h'.2.1 x).trans (h.2.1 x), Nat.le_trans h.2.2 h'.2.2⟩

/-- The same with the two answers under names of the caller's own. -/
theorem zzArrayLayout_is (l s a : Int) (o : Bool) (hl : 0 ≤ l) (hs : 0 ≤ s) (S : Int) (O : Bool) (E : Hid (al l s = S ∧ ov l s = O)) (w : World) :
    Calls Try.prog 10 #[.int .i64 l, .int .i64 s, .int .i64 a, .bool o] w fun e w' => e = .returned (.tuple #[.int .i64 S, .int .i64 a, .bool O]) ∧ Grown w w' := by
  obtain ⟨rfl, rfl⟩ := E.out
  exact zzArrayLayout_any l s a o hl hs w
end Go.Proofs.Qxb6002360a
