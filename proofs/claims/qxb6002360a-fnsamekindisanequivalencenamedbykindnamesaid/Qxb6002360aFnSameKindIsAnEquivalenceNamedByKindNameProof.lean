/-
  THE PROOF OF 'Rows.FnSameKindIsAnEquivalenceNamedByKindNameSaid'. The frame is the guide's shell, written by program for this function; the walk is ours.
-/
import Derived.Test.Qxb6002360aRows
import Derived.Test.Qxb6002360aKindWalks
import Derived.WalkKit
import Derived.ProofKit
namespace Go.Proofs.Qxb6002360a.fnSameKindIsAnEquivalenceNamedByKindName
open Go.ChangeShapes Go.WideShapes Go.ChangeAt Go.RowKit
set_option linter.unusedVariables false      -- a walk need not use every 'w<i>' (that an integer argument fits its kind)

theorem own : ownKnob Try.prog.godebug = none := by kernel_rfl

/-! ### THE PLAIN LAW: 'same' is an equivalence, named by 'kn' over the numbers of basicClass 1 to 5 -/
theorem same_refl (a : Int) : same a a = true := by simp [same]
theorem same_symm (a b : Int) : same b a = same a b := by
  unfold same
  by_cases h : a = b
  · simp [h]
  · have h' : ¬ b = a := fun e => h e.symm
    simp [h, h', Bool.and_comm]
theorem same_trans (a b c : Int) (h1 : same a b = true) (h2 : same b c = true) : same a c = true := by
  simp only [same, Bool.or_eq_true, Bool.and_eq_true, decide_eq_true_eq] at *
  rcases h1 with rfl | ⟨p, q⟩
  · exact h2
  · rcases h2 with rfl | ⟨_, r⟩
    · exact Or.inr ⟨p, q⟩
    · exact Or.inr ⟨p, r⟩
theorem kn_1 : kn 1 = ⟨#[98, 111, 111, 108, 101, 97, 110]⟩ := by simp [kn]
theorem kn_5 : kn 5 = ⟨#[115, 116, 114, 105, 110, 103]⟩ := by simp [kn]
theorem kn_n (c : Int) (h1 : ¬ c = 1) (h5 : ¬ c = 5) : kn c = ⟨#[110, 117, 109, 101, 114, 105, 99]⟩ := by simp [kn, h1, h5]
theorem bool_string : ((⟨#[98, 111, 111, 108, 101, 97, 110]⟩ : ByteArray).toList == (⟨#[115, 116, 114, 105, 110, 103]⟩ : ByteArray).toList) = false := by
  rw [ByteArray.toList_eq, ByteArray.toList_eq]; decide
theorem bool_num : ((⟨#[98, 111, 111, 108, 101, 97, 110]⟩ : ByteArray).toList == (⟨#[110, 117, 109, 101, 114, 105, 99]⟩ : ByteArray).toList) = false := by
  rw [ByteArray.toList_eq, ByteArray.toList_eq]; decide
theorem string_num : ((⟨#[115, 116, 114, 105, 110, 103]⟩ : ByteArray).toList == (⟨#[110, 117, 109, 101, 114, 105, 99]⟩ : ByteArray).toList) = false := by
  rw [ByteArray.toList_eq, ByteArray.toList_eq]; decide
theorem beq_turn {a b : List UInt8} (h : (a == b) = false) : (b == a) = false := by
  simp only [beq_eq_false_iff_ne, ne_eq] at *
  exact fun e => h e.symm
/-- Over the numbers of basicClass of values a number's basicClass is none of 1 and 5. -/
theorem num_iff (c : Int) (b1 : 1 ≤ c) (b2 : c ≤ 5) : num c = true ↔ ¬ c = 1 ∧ ¬ c = 5 := by
  simp only [num, decide_eq_true_eq]
  omega
theorem named_yes (c1 c2 : Int) (b1 : 1 ≤ c1) (b2 : c1 ≤ 5) (b3 : 1 ≤ c2) (b4 : c2 ≤ 5) (h : same c1 c2 = true) : kn c2 = kn c1 := by
  simp only [same, Bool.or_eq_true, Bool.and_eq_true, decide_eq_true_eq] at h
  rcases h with rfl | ⟨p, q⟩
  · rfl
  · obtain ⟨p1, p5⟩ := (num_iff c1 b1 b2).1 p
    obtain ⟨q1, q5⟩ := (num_iff c2 b3 b4).1 q
    rw [kn_n c1 p1 p5, kn_n c2 q1 q5]
theorem named_no (c1 c2 : Int) (b1 : 1 ≤ c1) (b2 : c1 ≤ 5) (b3 : 1 ≤ c2) (b4 : c2 ≤ 5) (h : same c1 c2 = false) : ((kn c1).toList == (kn c2).toList) = false := by
  have hne : ¬ c1 = c2 := by
    intro e; rw [e, same_refl] at h; cases h
  have hn : ¬ (num c1 = true ∧ num c2 = true) := by
    rintro ⟨p, q⟩; simp [same, p, q] at h
  rw [num_iff c1 b1 b2, num_iff c2 b3 b4] at hn
  by_cases p1 : c1 = 1
  · subst p1
    by_cases q5 : c2 = 5
    · subst q5; rw [kn_1, kn_5]; exact bool_string
    · rw [kn_1, kn_n c2 (fun e => hne e.symm) q5]; exact bool_num
  by_cases p5 : c1 = 5
  · subst p5
    by_cases q1 : c2 = 1
    · subst q1; rw [kn_1, kn_5]; exact beq_turn bool_string
    · rw [kn_5, kn_n c2 q1 (fun e => hne e.symm)]; exact string_num
  by_cases q1 : c2 = 1
  · subst q1; rw [kn_1, kn_n c1 p1 p5]; exact beq_turn bool_num
  by_cases q5 : c2 = 5
  · subst q5; rw [kn_5, kn_n c1 p1 p5]; exact beq_turn string_num
  exact absurd ⟨⟨p1, p5⟩, ⟨q1, q5⟩⟩ hn

/-! ### STEP 1: THE WALK: one theorem for each way through the law -/
set_option maxHeartbeats 800000 in
/-- Not of one kind; both numbers of basicClass from 1 to 5. -/
theorem no_in (c1 c2 c3 n : Int) (u v : Bool) (K1 K2 : ByteArray) (hK : (K1.toList == K2.toList) = false) (b1 : 1 ≤ c1) (b2 : c1 ≤ 5) (b3 : 1 ≤ c2) (b4 : c2 ≤ 5)
    (E12 : Hid (same c1 c2 = false)) (E11 : Hid (same c1 c1 = true)) (E21 : Hid (same c2 c1 = false)) (F1 : Hid (kn c1 = K1)) (F2 : Hid (kn c2 = K2)) (w : World) :
    Calls Try.prog 7 #[.int .i64 c1, .int .i64 c2, .int .i64 c3, .int .i64 n, .bool u, .bool v] w fun e w' => e = .returned (.bool true) ∧ Grown w w' := by
  go_enter Try.func7, Try.ntmps7
  go_wp2_with fail
  refine (zzSame_is c1 c2 false E12 _).mono ?_
  rintro e w1 ⟨rfl, k1⟩
  go_wp2_with fail
  refine (zzSameKind_is c1 n c2 0 u v false false false E12 _).mono ?_
  rintro e w2 ⟨rfl, k2⟩
  go_wp2_with fail
  refine (zzSameKind_is c1 0 c2 n false false u v false E12 _).mono ?_
  rintro e w3 ⟨rfl, k3⟩
  go_wp2_with fail
  refine (zzSame_is c1 c1 true E11 _).mono ?_
  rintro e w4 ⟨rfl, k4⟩
  go_wp2_with fail
  refine (zzSame_is c2 c1 false E21 _).mono ?_
  rintro e w5 ⟨rfl, k5⟩
  go_wp2_with fail
  refine (zzKindName_is c1 K1 F1 _).mono ?_
  rintro e w6 ⟨rfl, k6⟩
  go_wp2_with fail
  refine (zzKindName_is c2 K2 F2 _).mono ?_
  rintro e w7 ⟨rfl, k7⟩
  go_wp2
  go_ret
  exact ⟨rfl, kinds_grown k1 (kinds_grown k2 (kinds_grown k3 (kinds_grown k4 (kinds_grown k5 (kinds_grown k6 k7)))))⟩

set_option maxHeartbeats 800000 in
/-- Not of one kind; a basicClass outside 1 to 5. -/
theorem no_out (c1 c2 c3 n : Int) (u v : Bool) (hg : c1 < 1 ∨ (1 ≤ c1 ∧ 5 < c1) ∨ (1 ≤ c1 ∧ c1 ≤ 5 ∧ c2 < 1) ∨ (1 ≤ c1 ∧ c1 ≤ 5 ∧ 1 ≤ c2 ∧ 5 < c2))
    (E12 : Hid (same c1 c2 = false)) (E11 : Hid (same c1 c1 = true)) (E21 : Hid (same c2 c1 = false)) (w : World) :
    Calls Try.prog 7 #[.int .i64 c1, .int .i64 c2, .int .i64 c3, .int .i64 n, .bool u, .bool v] w fun e w' => e = .returned (.bool true) ∧ Grown w w' := by
  rcases hg with g1 | ⟨g1, g2⟩ | ⟨g1, g2, g3⟩ | ⟨g1, g2, g3, g4⟩
  all_goals
    go_enter Try.func7, Try.ntmps7
    go_wp2_with fail
    refine (zzSame_is c1 c2 false E12 _).mono ?_
    rintro e w1 ⟨rfl, k1⟩
    go_wp2_with fail
    refine (zzSameKind_is c1 n c2 0 u v false false false E12 _).mono ?_
    rintro e w2 ⟨rfl, k2⟩
    go_wp2_with fail
    refine (zzSameKind_is c1 0 c2 n false false u v false E12 _).mono ?_
    rintro e w3 ⟨rfl, k3⟩
    go_wp2_with fail
    refine (zzSame_is c1 c1 true E11 _).mono ?_
    rintro e w4 ⟨rfl, k4⟩
    go_wp2_with fail
    refine (zzSame_is c2 c1 false E21 _).mono ?_
    rintro e w5 ⟨rfl, k5⟩
    go_wp2
    go_ret
    exact ⟨rfl, kinds_grown k1 (kinds_grown k2 (kinds_grown k3 (kinds_grown k4 k5)))⟩

set_option maxHeartbeats 800000 in
/-- Of one kind, the third of another; both numbers of basicClass from 1 to 5. -/
theorem yes_no_in (c1 c2 c3 n : Int) (u v : Bool) (K : ByteArray) (b1 : 1 ≤ c1) (b2 : c1 ≤ 5) (b3 : 1 ≤ c2) (b4 : c2 ≤ 5)
    (E12 : Hid (same c1 c2 = true)) (E11 : Hid (same c1 c1 = true)) (E21 : Hid (same c2 c1 = true)) (E23 : Hid (same c2 c3 = false)) (F1 : Hid (kn c1 = K)) (F2 : Hid (kn c2 = K)) (w : World) :
    Calls Try.prog 7 #[.int .i64 c1, .int .i64 c2, .int .i64 c3, .int .i64 n, .bool u, .bool v] w fun e w' => e = .returned (.bool true) ∧ Grown w w' := by
  go_enter Try.func7, Try.ntmps7
  go_wp2_with fail
  refine (zzSame_is c1 c2 true E12 _).mono ?_
  rintro e w1 ⟨rfl, k1⟩
  go_wp2_with fail
  refine (zzSameKind_is c1 n c2 0 u v false false true E12 _).mono ?_
  rintro e w2 ⟨rfl, k2⟩
  go_wp2_with fail
  refine (zzSameKind_is c1 0 c2 n false false u v true E12 _).mono ?_
  rintro e w3 ⟨rfl, k3⟩
  go_wp2_with fail
  refine (zzSame_is c1 c1 true E11 _).mono ?_
  rintro e w4 ⟨rfl, k4⟩
  go_wp2_with fail
  refine (zzSame_is c2 c1 true E21 _).mono ?_
  rintro e w5 ⟨rfl, k5⟩
  go_wp2_with fail
  refine (zzSame_is c2 c3 false E23 _).mono ?_
  rintro e w6 ⟨rfl, k6⟩
  go_wp2_with fail
  refine (zzKindName_is c1 K F1 _).mono ?_
  rintro e w7 ⟨rfl, k7⟩
  go_wp2_with fail
  refine (zzKindName_is c2 K F2 _).mono ?_
  rintro e w8 ⟨rfl, k8⟩
  go_wp2
  go_ret
  exact ⟨rfl, kinds_grown k1 (kinds_grown k2 (kinds_grown k3 (kinds_grown k4 (kinds_grown k5 (kinds_grown k6 (kinds_grown k7 k8))))))⟩

set_option maxHeartbeats 800000 in
/-- Of one kind, the third of another; a basicClass outside 1 to 5. -/
theorem yes_no_out (c1 c2 c3 n : Int) (u v : Bool) (hg : c1 < 1 ∨ (1 ≤ c1 ∧ 5 < c1) ∨ (1 ≤ c1 ∧ c1 ≤ 5 ∧ c2 < 1) ∨ (1 ≤ c1 ∧ c1 ≤ 5 ∧ 1 ≤ c2 ∧ 5 < c2))
    (E12 : Hid (same c1 c2 = true)) (E11 : Hid (same c1 c1 = true)) (E21 : Hid (same c2 c1 = true)) (E23 : Hid (same c2 c3 = false)) (w : World) :
    Calls Try.prog 7 #[.int .i64 c1, .int .i64 c2, .int .i64 c3, .int .i64 n, .bool u, .bool v] w fun e w' => e = .returned (.bool true) ∧ Grown w w' := by
  rcases hg with g1 | ⟨g1, g2⟩ | ⟨g1, g2, g3⟩ | ⟨g1, g2, g3, g4⟩
  all_goals
    go_enter Try.func7, Try.ntmps7
    go_wp2_with fail
    refine (zzSame_is c1 c2 true E12 _).mono ?_
    rintro e w1 ⟨rfl, k1⟩
    go_wp2_with fail
    refine (zzSameKind_is c1 n c2 0 u v false false true E12 _).mono ?_
    rintro e w2 ⟨rfl, k2⟩
    go_wp2_with fail
    refine (zzSameKind_is c1 0 c2 n false false u v true E12 _).mono ?_
    rintro e w3 ⟨rfl, k3⟩
    go_wp2_with fail
    refine (zzSame_is c1 c1 true E11 _).mono ?_
    rintro e w4 ⟨rfl, k4⟩
    go_wp2_with fail
    refine (zzSame_is c2 c1 true E21 _).mono ?_
    rintro e w5 ⟨rfl, k5⟩
    go_wp2_with fail
    refine (zzSame_is c2 c3 false E23 _).mono ?_
    rintro e w6 ⟨rfl, k6⟩
    go_wp2
    go_ret
    exact ⟨rfl, kinds_grown k1 (kinds_grown k2 (kinds_grown k3 (kinds_grown k4 (kinds_grown k5 k6))))⟩

set_option maxHeartbeats 800000 in
/-- All three of one kind; both numbers of basicClass from 1 to 5. -/
theorem yes_yes_in (c1 c2 c3 n : Int) (u v : Bool) (K : ByteArray) (b1 : 1 ≤ c1) (b2 : c1 ≤ 5) (b3 : 1 ≤ c2) (b4 : c2 ≤ 5)
    (E12 : Hid (same c1 c2 = true)) (E11 : Hid (same c1 c1 = true)) (E21 : Hid (same c2 c1 = true)) (E23 : Hid (same c2 c3 = true)) (E13 : Hid (same c1 c3 = true)) (F1 : Hid (kn c1 = K)) (F2 : Hid (kn c2 = K)) (w : World) :
    Calls Try.prog 7 #[.int .i64 c1, .int .i64 c2, .int .i64 c3, .int .i64 n, .bool u, .bool v] w fun e w' => e = .returned (.bool true) ∧ Grown w w' := by
  go_enter Try.func7, Try.ntmps7
  go_wp2_with fail
  refine (zzSame_is c1 c2 true E12 _).mono ?_
  rintro e w1 ⟨rfl, k1⟩
  go_wp2_with fail
  refine (zzSameKind_is c1 n c2 0 u v false false true E12 _).mono ?_
  rintro e w2 ⟨rfl, k2⟩
  go_wp2_with fail
  refine (zzSameKind_is c1 0 c2 n false false u v true E12 _).mono ?_
  rintro e w3 ⟨rfl, k3⟩
  go_wp2_with fail
  refine (zzSame_is c1 c1 true E11 _).mono ?_
  rintro e w4 ⟨rfl, k4⟩
  go_wp2_with fail
  refine (zzSame_is c2 c1 true E21 _).mono ?_
  rintro e w5 ⟨rfl, k5⟩
  go_wp2_with fail
  refine (zzSame_is c2 c3 true E23 _).mono ?_
  rintro e w6 ⟨rfl, k6⟩
  go_wp2_with fail
  refine (zzSame_is c1 c3 true E13 _).mono ?_
  rintro e w7 ⟨rfl, k7⟩
  go_wp2_with fail
  refine (zzKindName_is c1 K F1 _).mono ?_
  rintro e w8 ⟨rfl, k8⟩
  go_wp2_with fail
  refine (zzKindName_is c2 K F2 _).mono ?_
  rintro e w9 ⟨rfl, k9⟩
  go_wp2
  go_ret
  exact ⟨rfl, kinds_grown k1 (kinds_grown k2 (kinds_grown k3 (kinds_grown k4 (kinds_grown k5 (kinds_grown k6 (kinds_grown k7 (kinds_grown k8 k9)))))))⟩

set_option maxHeartbeats 800000 in
/-- All three of one kind; a basicClass outside 1 to 5. -/
theorem yes_yes_out (c1 c2 c3 n : Int) (u v : Bool) (hg : c1 < 1 ∨ (1 ≤ c1 ∧ 5 < c1) ∨ (1 ≤ c1 ∧ c1 ≤ 5 ∧ c2 < 1) ∨ (1 ≤ c1 ∧ c1 ≤ 5 ∧ 1 ≤ c2 ∧ 5 < c2))
    (E12 : Hid (same c1 c2 = true)) (E11 : Hid (same c1 c1 = true)) (E21 : Hid (same c2 c1 = true)) (E23 : Hid (same c2 c3 = true)) (E13 : Hid (same c1 c3 = true)) (w : World) :
    Calls Try.prog 7 #[.int .i64 c1, .int .i64 c2, .int .i64 c3, .int .i64 n, .bool u, .bool v] w fun e w' => e = .returned (.bool true) ∧ Grown w w' := by
  rcases hg with g1 | ⟨g1, g2⟩ | ⟨g1, g2, g3⟩ | ⟨g1, g2, g3, g4⟩
  all_goals
    go_enter Try.func7, Try.ntmps7
    go_wp2_with fail
    refine (zzSame_is c1 c2 true E12 _).mono ?_
    rintro e w1 ⟨rfl, k1⟩
    go_wp2_with fail
    refine (zzSameKind_is c1 n c2 0 u v false false true E12 _).mono ?_
    rintro e w2 ⟨rfl, k2⟩
    go_wp2_with fail
    refine (zzSameKind_is c1 0 c2 n false false u v true E12 _).mono ?_
    rintro e w3 ⟨rfl, k3⟩
    go_wp2_with fail
    refine (zzSame_is c1 c1 true E11 _).mono ?_
    rintro e w4 ⟨rfl, k4⟩
    go_wp2_with fail
    refine (zzSame_is c2 c1 true E21 _).mono ?_
    rintro e w5 ⟨rfl, k5⟩
    go_wp2_with fail
    refine (zzSame_is c2 c3 true E23 _).mono ?_
    rintro e w6 ⟨rfl, k6⟩
    go_wp2_with fail
    refine (zzSame_is c1 c3 true E13 _).mono ?_
    rintro e w7 ⟨rfl, k7⟩
    go_wp2
    go_ret
    exact ⟨rfl, kinds_grown k1 (kinds_grown k2 (kinds_grown k3 (kinds_grown k4 (kinds_grown k5 (kinds_grown k6 k7)))))⟩

theorem walk (a0 : Int) (a1 : Int) (a2 : Int) (a3 : Int) (a4 : Bool) (a5 : Bool) (w0 : (Lit.int .i64 a0).wf = true) (w1 : (Lit.int .i64 a1).wf = true) (w2 : (Lit.int .i64 a2).wf = true) (w3 : (Lit.int .i64 a3).wf = true) (w : World) :
    Calls Try.prog 7 #[.int .i64 a0, .int .i64 a1, .int .i64 a2, .int .i64 a3, .bool a4, .bool a5] w fun e w' => e = .returned (.bool true) ∧ Grown w w' := by
  clear w0 w1 w2 w3
  by_cases g : 1 ≤ a0 ∧ a0 ≤ 5 ∧ 1 ≤ a1 ∧ a1 ≤ 5
  · obtain ⟨b1, b2, b3, b4⟩ := g
    cases s12 : same a0 a1
    · exact no_in a0 a1 a2 a3 a4 a5 _ _ (named_no a0 a1 b1 b2 b3 b4 s12) b1 b2 b3 b4 s12 (same_refl a0) ((same_symm a0 a1).trans s12) rfl rfl w
    · cases s23 : same a1 a2
      · exact yes_no_in a0 a1 a2 a3 a4 a5 _ b1 b2 b3 b4 s12 (same_refl a0) ((same_symm a0 a1).trans s12) s23 rfl (named_yes a0 a1 b1 b2 b3 b4 s12) w
      · exact yes_yes_in a0 a1 a2 a3 a4 a5 _ b1 b2 b3 b4 s12 (same_refl a0) ((same_symm a0 a1).trans s12) s23 (same_trans a0 a1 a2 s12 s23) rfl (named_yes a0 a1 b1 b2 b3 b4 s12) w
  · have hg : a0 < 1 ∨ (1 ≤ a0 ∧ 5 < a0) ∨ (1 ≤ a0 ∧ a0 ≤ 5 ∧ a1 < 1) ∨ (1 ≤ a0 ∧ a0 ≤ 5 ∧ 1 ≤ a1 ∧ 5 < a1) := by omega
    cases s12 : same a0 a1
    · exact no_out a0 a1 a2 a3 a4 a5 hg s12 (same_refl a0) ((same_symm a0 a1).trans s12) w
    · cases s23 : same a1 a2
      · exact yes_no_out a0 a1 a2 a3 a4 a5 hg s12 (same_refl a0) ((same_symm a0 a1).trans s12) s23 w
      · exact yes_yes_out a0 a1 a2 a3 a4 a5 hg s12 (same_refl a0) ((same_symm a0 a1).trans s12) s23 (same_trans a0 a1 a2 s12 s23) w

/-! ### THE ROW's STEP: WRITTEN OUT: LEAVE IT -/
set_option maxRecDepth 100000 in
theorem lifted (os : Os) (started : os.Started) (H : Type) (enc : TypeId × Value → H) :
    ReturnsInHanded {} Try.checked os 7 .any (Rows.fnSameKindIsAnEquivalenceNamedByKindNameSpec.pre6 enc Try.prog Try.f7 Rows.fnSameKindIsAnEquivalenceNamedByKindNameRow.domain false) (Rows.fnSameKindIsAnEquivalenceNamedByKindNameSpec.post enc Try.prog Try.f7 false true false false) := by
  refine returnsInHanded_of_change (C := Try.checked) own started (by kernel_rfl) Try.func7
    (ChangeSpec.witness6 (enc := enc) (C := Try.checked) false ⟨#[], #[.int .i64 0, .int .i64 0, .int .i64 0, .int .i64 0, .bool false, .bool false], []⟩ 8 (by kernel_rfl) (by kernel_rfl) (by kernel_rfl) (by kernel_rfl)) ?_
  intro W base args ds gs before hval0 hW hcnd _
  have hval : ∀ (j : Nat) t v, Try.f7.params[j]? = some t → args[j]? = some v → Value.okWide Try.prog W .any base t v := hval0
  have hW' := hW
  obtain ⟨p, q, hA0, hV, rfl, hfz, hnd⟩ := hW
  have hA : DataW.TrodAll enc Try.prog W 0 (fun _ => true) true Try.f7.params.toList args.toList ds p := hA0
  rw [Try.params7] at hA hval
  obtain ⟨v0, vs0, d0, ds0, p0, q0, hargs, rfl, rfl, h0, r0⟩ := trodAll_cons hA
  obtain ⟨v1, vs1, d1, ds1, p1, q1, rfl, rfl, rfl, h1, r1⟩ := trodAll_cons r0
  obtain ⟨v2, vs2, d2, ds2, p2, q2, rfl, rfl, rfl, h2, r2⟩ := trodAll_cons r1
  obtain ⟨v3, vs3, d3, ds3, p3, q3, rfl, rfl, rfl, h3, r3⟩ := trodAll_cons r2
  obtain ⟨v4, vs4, d4, ds4, p4, q4, rfl, rfl, rfl, h4, r4⟩ := trodAll_cons r3
  obtain ⟨v5, vs5, d5, ds5, p5, q5, rfl, rfl, rfl, h5, r5⟩ := trodAll_cons r4
  obtain ⟨rfl, rfl, rfl⟩ := trodAll_nil r5
  obtain rfl : args = #[v0, v1, v2, v3, v4, v5] := by cases args; simp_all
  obtain ⟨rfl, rfl⟩ := trodVars_none hV
  obtain ⟨a0, rfl, rfl, rfl, w0⟩ := open_int Try.underlying3 (hval 0 3 v0 rfl rfl) h0
  obtain ⟨a1, rfl, rfl, rfl, w1⟩ := open_int Try.underlying3 (hval 1 3 v1 rfl rfl) h1
  obtain ⟨a2, rfl, rfl, rfl, w2⟩ := open_int Try.underlying3 (hval 2 3 v2 rfl rfl) h2
  obtain ⟨a3, rfl, rfl, rfl, w3⟩ := open_int Try.underlying3 (hval 3 3 v3 rfl rfl) h3
  obtain ⟨a4, rfl, rfl, rfl⟩ := open_bool Try.underlying4 (hval 4 4 v4 rfl rfl) h4
  obtain ⟨a5, rfl, rfl, rfl⟩ := open_bool Try.underlying4 (hval 5 4 v5 rfl rfl) h5
  clear hA0 hval0
  simp only [List.append_nil] at hW'
  refine (walk a0 a1 a2 a3 a4 a5 w0 w1 w2 w3 W).mono fun e W' ⟨he, hg⟩ => ?_
  subst he
  exact ⟨_, rfl, post_of_same (pa := []) (pv := []) hW' (fun _ _ _ => (trodAll_mk1 (shut_bool Try.underlying4 _))) (fun sp _ => ⟨[], [], (shut_int Try.underlying3 w0), ⟨[], [], (shut_int Try.underlying3 w1), (trodAll_mk4 (shut_int Try.underlying3 w2) (shut_int Try.underlying3 w3) (shut_bool Try.underlying4 _) (shut_bool Try.underlying4 _)), rfl⟩, rfl⟩) (fun _ _ => rfl) rfl
    (hg.frame _) hg.2.1 (ok_one (by kernel_rfl) rfl (okWide_bool_mk Try.underlying4 _))⟩

theorem over : Rows.fnSameKindIsAnEquivalenceNamedByKindNameRow.holds Try.pinned (OpenSpec.ofChange Rows.fnSameKindIsAnEquivalenceNamedByKindNameSpec) :=
  OpenClaim.holds_of_wide 7 Try.f7 rfl rfl rfl rfl rfl rfl rfl ⟨rfl, rfl, rfl, rfl, rfl⟩ rfl rfl rfl rfl rfl (by kernel_rfl) Try.func7 (by kernel_rfl)
    (of_decide_eq_true (by kernel_rfl)) (by unfold Func.isWrapper; first | (rw [if_pos (by decide +kernel)]; kernel_rfl) | (rw [if_neg (by decide +kernel)]; exact ⟨rfl, rfl⟩))
    (fun os started H enc _ => lifted os started H enc)

/-- ████ THE STATEMENT ████ -/
theorem proved : Rows.FnSameKindIsAnEquivalenceNamedByKindNameSaid :=
  over
#print axioms proved
end Go.Proofs.Qxb6002360a.fnSameKindIsAnEquivalenceNamedByKindName
