/-
  THE WALKS of isNumeric (22), sameKind (20), ZZSameKind (13), zzSame (12), kindName (21), ZZKindName (14): 'same' and 'kn' of the numbers of basicClass alone.
-/
import Derived.Test.Qxb6002360aRows
import Derived.WalkKit
import Derived.WalkSpells
import Derived.RowKit3
import Derived.Deep.QuietTactic
import Derived.BigQuiet
import Derived.Deep.RegionWith
namespace Go.Proofs.Qxb6002360a
open Go.RowKit

/-- Is the basicClass one of numbers: integer, float, complex? -/
def num (c : Int) : Bool := decide (c = 2 ∨ c = 3 ∨ c = 4)
/-- Are two numbers of basicClass of one kind? -/
def same (a b : Int) : Bool := decide (a = b) || (num a && num b)

set_option maxHeartbeats 400000 in
theorem isNumeric_2 (b : Nat) (c : Int) (w : World) (hc : w.cell? ⟨b, 1, none⟩ = some (.int .i64 c)) (h : (c == 2) = true) :
    Calls Try.prog 22 #[.pointer (some ⟨b, 0, none⟩)] w fun e w' => e = .returned (.bool true) ∧ w' = w := by
  go_enter Try.func22, Try.ntmps22
  go_wp2
  go_ret
  exact ⟨rfl, rfl⟩
set_option maxHeartbeats 400000 in
theorem isNumeric_3 (b : Nat) (c : Int) (w : World) (hc : w.cell? ⟨b, 1, none⟩ = some (.int .i64 c)) (h : (c == 2) = false) (h' : (c == 3) = true) :
    Calls Try.prog 22 #[.pointer (some ⟨b, 0, none⟩)] w fun e w' => e = .returned (.bool true) ∧ w' = w := by
  go_enter Try.func22, Try.ntmps22
  go_wp2
  go_ret
  exact ⟨rfl, rfl⟩
set_option maxHeartbeats 400000 in
theorem isNumeric_4 (b : Nat) (c : Int) (w : World) (hc : w.cell? ⟨b, 1, none⟩ = some (.int .i64 c)) (h : (c == 2) = false) (h' : (c == 3) = false) (B : Bool) (h'' : (c == 4) = B) :
    Calls Try.prog 22 #[.pointer (some ⟨b, 0, none⟩)] w fun e w' => e = .returned (.bool B) ∧ w' = w := by
  go_enter Try.func22, Try.ntmps22
  go_wp2
  go_ret
  exact ⟨rfl, rfl⟩

theorem isNumeric_is (b : Nat) (c : Int) (N : Bool) (E : Hid (num c = N)) (w : World) (hc : w.cell? ⟨b, 1, none⟩ = some (.int .i64 c)) :
    Calls Try.prog 22 #[.pointer (some ⟨b, 0, none⟩)] w fun e w' => e = .returned (.bool N) ∧ w' = w := by
  obtain rfl := E.out
  by_cases h2 : c = 2
  · rw [show num c = true by simp [num, h2]]
    exact isNumeric_2 b c w hc (by simp [h2])
  by_cases h3 : c = 3
  · rw [show num c = true by simp [num, h3]]
    exact isNumeric_3 b c w hc (by simp [h2]) (by simp [h3])
  · refine isNumeric_4 b c w hc (by simp [h2]) (by simp [h3]) _ ?_
    by_cases h4 : c = 4 <;> simp [num, h2, h3, h4]

set_option maxHeartbeats 400000 in
theorem sameKind_eq (b b' : Nat) (c c' : Int) (w : World) (hc : w.cell? ⟨b, 1, none⟩ = some (.int .i64 c)) (hc' : w.cell? ⟨b', 1, none⟩ = some (.int .i64 c')) (h : (c == c') = true) :
    Calls Try.prog 20 #[.pointer (some ⟨b, 0, none⟩), .pointer (some ⟨b', 0, none⟩)] w fun e w' => e = .returned (.bool true) ∧ ∃ n, w' = w.drewN n := by
  go_enter Try.func20, Try.ntmps20
  go_wp2_with fail
  go_quiet (fail)
  go_wp2
  go_ret
  exact ⟨rfl, _, rfl⟩
set_option maxHeartbeats 400000 in
theorem sameKind_no (b b' : Nat) (c c' : Int) (w : World) (hc : w.cell? ⟨b, 1, none⟩ = some (.int .i64 c)) (hc' : w.cell? ⟨b', 1, none⟩ = some (.int .i64 c')) (h : (c == c') = false) (E : Hid (num c = false)) :
    Calls Try.prog 20 #[.pointer (some ⟨b, 0, none⟩), .pointer (some ⟨b', 0, none⟩)] w fun e w' => e = .returned (.bool false) ∧ ∃ n, w' = w.drewN n := by
  go_enter Try.func20, Try.ntmps20
  go_wp2_with fail
  go_quiet ((go_at_call 22; exact Calls.quiet_of_same (isNumeric_is b c false E _ (by simp [go_sem, hc]))))
  go_wp2
  go_ret
  exact ⟨rfl, _, rfl⟩
set_option maxHeartbeats 400000 in
theorem sameKind_yes (b b' : Nat) (c c' : Int) (w : World) (hc : w.cell? ⟨b, 1, none⟩ = some (.int .i64 c)) (hc' : w.cell? ⟨b', 1, none⟩ = some (.int .i64 c')) (h : (c == c') = false) (E : Hid (num c = true)) (N : Bool) (E' : Hid (num c' = N)) :
    Calls Try.prog 20 #[.pointer (some ⟨b, 0, none⟩), .pointer (some ⟨b', 0, none⟩)] w fun e w' => e = .returned (.bool N) ∧ ∃ n, w' = w.drewN n := by
  go_enter Try.func20, Try.ntmps20
  go_wp2_with fail
  go_quiet (first | (go_at_call_of 22 b; exact Calls.quiet_of_same (isNumeric_is b c true E _ (by simp [go_sem, hc]))) | (go_at_call_of 22 b'; exact Calls.quiet_of_same (isNumeric_is b' c' N E' _ (by simp [go_sem, hc']))))
  go_wp2
  go_ret
  exact ⟨rfl, _, rfl⟩

theorem sameKind_is (b b' : Nat) (c c' : Int) (S : Bool) (E : Hid (same c c' = S)) (w : World) (hc : w.cell? ⟨b, 1, none⟩ = some (.int .i64 c)) (hc' : w.cell? ⟨b', 1, none⟩ = some (.int .i64 c')) :
    Calls Try.prog 20 #[.pointer (some ⟨b, 0, none⟩), .pointer (some ⟨b', 0, none⟩)] w fun e w' => e = .returned (.bool S) ∧ ∃ n, w' = w.drewN n := by
  obtain rfl := E.out
  by_cases h : c = c'
  · rw [show same c c' = true by simp [same, h]]
    exact sameKind_eq b b' c c' w hc hc' (by simp [h])
  · cases hn : num c
    · rw [show same c c' = false by simp [same, h, hn]]
      exact sameKind_no b b' c c' w hc hc' (by simp [h]) hn
    · rw [show same c c' = num c' by simp [same, h, hn]]
      exact sameKind_yes b b' c c' w hc hc' (by simp [h]) hn _ rfl

theorem kinds_grown {a b c : World} (h : Grown a b) (h' : Grown b c) : Grown a c :=
  ⟨World.keptBut_trans h.1 h'.1, fun x => (h'.2.1 x).trans (h.2.1 x), Nat.le_trans h.2.2 h'.2.2⟩
theorem grown_drewN {a b : World} (h : Grown a b) (n : Nat) : Grown a (b.drewN n) := h

set_option maxHeartbeats 400000 in
theorem zzSameKind_is (c n c' n' : Int) (u v u' v' : Bool) (S : Bool) (E : Hid (same c c' = S)) (w : World) :
    Calls Try.prog 13 #[.int .i64 c, .int .i64 n, .bool u, .bool v, .int .i64 c', .int .i64 n', .bool u', .bool v'] w fun e w' => e = .returned (.bool S) ∧ Grown w w' := by
  go_enter Try.func13, Try.ntmps13
  go_wp2_with fail
  refine (sameKind_is w.heap.size (w.heap.size + 1) c c' S E _ ?_ ?_).mono ?_
  · simp [go_sem]
  · simp [go_sem]
  rintro e w' ⟨rfl, m, rfl⟩
  go_wp2
  go_ret
  exact ⟨rfl, grown_drewN (((Grown.refl _).alloc _ _).alloc _ _) _⟩

set_option maxHeartbeats 400000 in
theorem zzSame_is (c c' : Int) (S : Bool) (E : Hid (same c c' = S)) (w : World) :
    Calls Try.prog 12 #[.int .i64 c, .int .i64 c'] w fun e w' => e = .returned (.bool S) ∧ Grown w w' := by
  go_enter Try.func12, Try.ntmps12
  go_wp2_with fail
  refine (zzSameKind_is c 0 c' 0 false false false false S E _).mono ?_
  rintro e w' ⟨rfl, k⟩
  go_wp2
  go_ret
  exact ⟨rfl, k⟩

/-- The name of the kind that a basicClass has. -/
def kn (c : Int) : ByteArray :=
  if c = 1 then ⟨#[98, 111, 111, 108, 101, 97, 110]⟩ else if c = 5 then ⟨#[115, 116, 114, 105, 110, 103]⟩ else ⟨#[110, 117, 109, 101, 114, 105, 99]⟩

set_option maxHeartbeats 400000 in
theorem kindName_1 (b : Nat) (c : Int) (w : World) (hc : w.cell? ⟨b, 1, none⟩ = some (.int .i64 c)) (h : (c == 1) = true) :
    Calls Try.prog 21 #[.pointer (some ⟨b, 0, none⟩)] w fun e w' => e = .returned (.string ⟨#[98, 111, 111, 108, 101, 97, 110]⟩) ∧ w' = w := by
  go_enter Try.func21, Try.ntmps21
  go_wp2
  go_ret
  exact ⟨rfl, rfl⟩
set_option maxHeartbeats 400000 in
theorem kindName_5 (b : Nat) (c : Int) (w : World) (hc : w.cell? ⟨b, 1, none⟩ = some (.int .i64 c)) (h : (c == 1) = false) (h' : (c == 5) = true) :
    Calls Try.prog 21 #[.pointer (some ⟨b, 0, none⟩)] w fun e w' => e = .returned (.string ⟨#[115, 116, 114, 105, 110, 103]⟩) ∧ w' = w := by
  go_enter Try.func21, Try.ntmps21
  go_wp2
  go_ret
  exact ⟨rfl, rfl⟩
set_option maxHeartbeats 400000 in
theorem kindName_n (b : Nat) (c : Int) (w : World) (hc : w.cell? ⟨b, 1, none⟩ = some (.int .i64 c)) (h : (c == 1) = false) (h' : (c == 5) = false) :
    Calls Try.prog 21 #[.pointer (some ⟨b, 0, none⟩)] w fun e w' => e = .returned (.string ⟨#[110, 117, 109, 101, 114, 105, 99]⟩) ∧ w' = w := by
  go_enter Try.func21, Try.ntmps21
  go_wp2
  go_ret
  exact ⟨rfl, rfl⟩
theorem kindName_is (b : Nat) (c : Int) (K : ByteArray) (E : Hid (kn c = K)) (w : World) (hc : w.cell? ⟨b, 1, none⟩ = some (.int .i64 c)) :
    Calls Try.prog 21 #[.pointer (some ⟨b, 0, none⟩)] w fun e w' => e = .returned (.string K) ∧ w' = w := by
  obtain rfl := E.out
  unfold kn
  by_cases h1 : c = 1
  · rw [if_pos h1]
    exact kindName_1 b c w hc (by simp [h1])
  rw [if_neg h1]
  by_cases h5 : c = 5
  · rw [if_pos h5]
    exact kindName_5 b c w hc (by simp [h1]) (by simp [h5])
  rw [if_neg h5]
  exact kindName_n b c w hc (by simp [h1]) (by simp [h5])

set_option maxHeartbeats 400000 in
theorem zzKindName_is (c : Int) (K : ByteArray) (E : Hid (kn c = K)) (w : World) :
    Calls Try.prog 14 #[.int .i64 c] w fun e w' => e = .returned (.string K) ∧ Grown w w' := by
  go_enter Try.func14, Try.ntmps14
  go_wp2_with fail
  refine (kindName_is w.heap.size c K E _ ?_).mono ?_
  · simp [go_sem]
  rintro e w' ⟨rfl, rfl⟩
  go_wp2
  go_ret
  exact ⟨rfl, (Grown.refl _).alloc _ _⟩
end Go.Proofs.Qxb6002360a
