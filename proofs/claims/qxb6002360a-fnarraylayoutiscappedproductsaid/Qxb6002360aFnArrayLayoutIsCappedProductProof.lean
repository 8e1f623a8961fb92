/-
  THE PROOF OF 'Rows.FnArrayLayoutIsCappedProductSaid'. The frame is the guide's shell, written by program for this function; the walk is ours.
-/
import Derived.Test.Qxb6002360aRows
import Derived.Test.Qxb6002360aLayoutWalks
import Derived.Test.Qxb6002360aMulWalks
import Derived.WalkKit
import Derived.ProofKit
namespace Go.Proofs.Qxb6002360a.fnArrayLayoutIsCappedProduct
open Go.ChangeShapes Go.WideShapes Go.ChangeAt Go.RowKit
open Go.Proofs.Qxb6002360a.Plain
set_option linter.unusedVariables false      -- a walk need not use every 'w<i>' (that an integer argument fits its kind)

theorem own : ownKnob Try.prog.godebug = none := by kernel_rfl

/-! ### STEP 1: THE WALK -/
set_option maxHeartbeats 800000 in
/-- The upper half is not nought: the product is over. -/
theorem walk_high (l s a : Int) (o : Bool) (H L : Int) (b1 : 0 ≤ l) (b2 : 0 ≤ s) (b3 : l ≤ 9223372036854775807) (b4 : s ≤ 9223372036854775807) (h1 : (H != 0) = true)
    (E1 : Hid (al l s = 1125899906842624 ∧ ov l s = true)) (E2 : Hid (l * s / 18446744073709551616 = H ∧ l * s % 18446744073709551616 = L)) (w : World) :
    Calls Try.prog 5 #[.int .i64 l, .int .i64 s, .int .i64 a, .bool o] w fun e w' => e = .returned (.bool true) ∧ Grown w w' := by
  go_enter Try.func5, Try.ntmps5
  go_wp2_with fail
  refine (zzArrayLayout_is l s a o b1 b2 1125899906842624 true E1 _).mono ?_
  rintro e w1 ⟨rfl, k1⟩
  go_wp2_with fail
  refine (zzArrayLayout_is l s a (!o) b1 b2 1125899906842624 true E1 _).mono ?_
  rintro e w2 ⟨rfl, k2⟩
  go_wp2_with fail
  refine (mul64_any l s b1 b3 b2 b4 H L E2 _).mono ?_
  rintro e w3 ⟨rfl, rfl⟩
  go_wp2
  go_ret
  exact ⟨rfl, grown_trans k1 k2⟩

set_option maxHeartbeats 800000 in
/-- The upper half is nought, the lower one reaches the cap. -/
theorem walk_low (l s a : Int) (o : Bool) (L : Int) (b1 : 0 ≤ l) (b2 : 0 ≤ s) (b3 : l ≤ 9223372036854775807) (b4 : s ≤ 9223372036854775807) (h1 : 1125899906842624 ≤ L)
    (E1 : Hid (al l s = 1125899906842624 ∧ ov l s = true)) (E2 : Hid (l * s / 18446744073709551616 = 0 ∧ l * s % 18446744073709551616 = L)) (w : World) :
    Calls Try.prog 5 #[.int .i64 l, .int .i64 s, .int .i64 a, .bool o] w fun e w' => e = .returned (.bool true) ∧ Grown w w' := by
  go_enter Try.func5, Try.ntmps5
  go_wp2_with fail
  refine (zzArrayLayout_is l s a o b1 b2 1125899906842624 true E1 _).mono ?_
  rintro e w1 ⟨rfl, k1⟩
  go_wp2_with fail
  refine (zzArrayLayout_is l s a (!o) b1 b2 1125899906842624 true E1 _).mono ?_
  rintro e w2 ⟨rfl, k2⟩
  go_wp2_with fail
  refine (mul64_any l s b1 b3 b2 b4 0 L E2 _).mono ?_
  rintro e w3 ⟨rfl, rfl⟩
  go_wp2
  go_ret
  exact ⟨rfl, grown_trans k1 k2⟩

set_option maxHeartbeats 800000 in
/-- Below the cap. -/
theorem walk_below (l s a : Int) (o : Bool) (L : Int) (b1 : 0 ≤ l) (b2 : 0 ≤ s) (b3 : l ≤ 9223372036854775807) (b4 : s ≤ 9223372036854775807) (h0 : 0 ≤ L) (h1 : L < 1125899906842624) (h2 : decide (1125899906842624 ≤ L) = false)
    (E1 : Hid (al l s = L ∧ ov l s = false)) (E2 : Hid (l * s / 18446744073709551616 = 0 ∧ l * s % 18446744073709551616 = L)) (w : World) :
    Calls Try.prog 5 #[.int .i64 l, .int .i64 s, .int .i64 a, .bool o] w fun e w' => e = .returned (.bool true) ∧ Grown w w' := by
  go_enter Try.func5, Try.ntmps5
  go_wp2_with fail
  refine (zzArrayLayout_is l s a o b1 b2 L false E1 _).mono ?_
  rintro e w1 ⟨rfl, k1⟩
  go_wp2_with fail
  refine (zzArrayLayout_is l s a (!o) b1 b2 L false E1 _).mono ?_
  rintro e w2 ⟨rfl, k2⟩
  go_wp2_with fail
  refine (mul64_any l s b1 b3 b2 b4 0 L E2 _).mono ?_
  rintro e w3 ⟨rfl, rfl⟩
  go_wp2
  go_ret
  exact ⟨rfl, grown_trans k1 k2⟩

theorem max_i64 {x : Int} (h : (Lit.int .i64 x).wf = true) : x ≤ 9223372036854775807 := by
  simp [Lit.wf, IntKind.min, IntKind.max, IntKind.signed, IntKind.bits] at h
  omega

set_option maxHeartbeats 800000 in
theorem walk (a0 : Int) (a1 : Int) (a2 : Int) (a3 : Bool) (w0 : (Lit.int .i64 a0).wf = true) (w1 : (Lit.int .i64 a1).wf = true) (w2 : (Lit.int .i64 a2).wf = true) (w : World) :
    Calls Try.prog 5 #[.int .i64 a0, .int .i64 a1, .int .i64 a2, .bool a3] w fun e w' => e = .returned (.bool true) ∧ Grown w w' := by
  have m0 := max_i64 w0
  have m1 := max_i64 w1
  clear w0 w1 w2
  by_cases c1 : a0 < 0
  · go_enter Try.func5, Try.ntmps5
    go_wp2
    go_ret
    exact ⟨rfl, by repeat (first | exact Grown.refl _ | apply Grown.drew | apply Grown.alloc)⟩
  by_cases c2 : a1 < 0
  · go_enter Try.func5, Try.ntmps5
    go_wp2
    go_ret
    exact ⟨rfl, by repeat (first | exact Grown.refl _ | apply Grown.drew | apply Grown.alloc)⟩
  have d0 : 0 ≤ a0 := by omega
  have d1 : 0 ≤ a1 := by omega
  have p : 0 ≤ a0 * a1 := Int.mul_nonneg d0 d1
  by_cases g : 1125899906842624 ≤ a0 * a1
  · have e1 : al a0 a1 = 1125899906842624 ∧ ov a0 a1 = true := by simp [al, ov, g]
    by_cases g2 : a0 * a1 / 18446744073709551616 = 0
    · exact walk_low a0 a1 a2 a3 _ d0 d1 m0 m1 (by omega) e1 ⟨g2, rfl⟩ w
    · exact walk_high a0 a1 a2 a3 _ _ d0 d1 m0 m1 (by simpa using g2) e1 ⟨rfl, rfl⟩ w
  · have e1 := al_under a0 a1 (by omega)
    exact walk_below a0 a1 a2 a3 (a0 * a1) d0 d1 m0 m1 p (by omega) (by simpa using g) e1 ⟨by omega, by omega⟩ w

/-! ### THE ROW's STEP: WRITTEN OUT: LEAVE IT -/
set_option maxRecDepth 100000 in
theorem lifted (os : Os) (started : os.Started) (H : Type) (enc : TypeId × Value → H) :
    ReturnsInHanded {} Try.checked os 5 .any (Rows.fnArrayLayoutIsCappedProductSpec.pre6 enc Try.prog Try.f5 Rows.fnArrayLayoutIsCappedProductRow.domain false) (Rows.fnArrayLayoutIsCappedProductSpec.post enc Try.prog Try.f5 false true false false) := by
  refine returnsInHanded_of_change (C := Try.checked) own started (by kernel_rfl) Try.func5
    (ChangeSpec.witness6 (enc := enc) (C := Try.checked) false ⟨#[], #[.int .i64 0, .int .i64 0, .int .i64 0, .bool false], []⟩ 8 (by kernel_rfl) (by kernel_rfl) (by kernel_rfl) (by kernel_rfl)) ?_
  intro W base args ds gs before hval0 hW hcnd _
  have hval : ∀ (j : Nat) t v, Try.f5.params[j]? = some t → args[j]? = some v → Value.okWide Try.prog W .any base t v := hval0
  have hW' := hW
  obtain ⟨p, q, hA0, hV, rfl, hfz, hnd⟩ := hW
  have hA : DataW.TrodAll enc Try.prog W 0 (fun _ => true) true Try.f5.params.toList args.toList ds p := hA0
  rw [Try.params5] at hA hval
  obtain ⟨v0, vs0, d0, ds0, p0, q0, hargs, rfl, rfl, h0, r0⟩ := trodAll_cons hA
  obtain ⟨v1, vs1, d1, ds1, p1, q1, rfl, rfl, rfl, h1, r1⟩ := trodAll_cons r0
  obtain ⟨v2, vs2, d2, ds2, p2, q2, rfl, rfl, rfl, h2, r2⟩ := trodAll_cons r1
  obtain ⟨v3, vs3, d3, ds3, p3, q3, rfl, rfl, rfl, h3, r3⟩ := trodAll_cons r2
  obtain ⟨rfl, rfl, rfl⟩ := trodAll_nil r3
  obtain rfl : args = #[v0, v1, v2, v3] := by cases args; simp_all
  obtain ⟨rfl, rfl⟩ := trodVars_none hV
  obtain ⟨a0, rfl, rfl, rfl, w0⟩ := open_int Try.underlying2 (hval 0 2 v0 rfl rfl) h0
  obtain ⟨a1, rfl, rfl, rfl, w1⟩ := open_int Try.underlying2 (hval 1 2 v1 rfl rfl) h1
  obtain ⟨a2, rfl, rfl, rfl, w2⟩ := open_int Try.underlying2 (hval 2 2 v2 rfl rfl) h2
  obtain ⟨a3, rfl, rfl, rfl⟩ := open_bool Try.underlying4 (hval 3 4 v3 rfl rfl) h3
  clear hA0 hval0
  simp only [List.append_nil] at hW'
  refine (walk a0 a1 a2 a3 w0 w1 w2 W).mono fun e W' ⟨he, hg⟩ => ?_
  subst he
  exact ⟨_, rfl, post_of_same (pa := []) (pv := []) hW' (fun _ _ _ => (trodAll_mk1 (shut_bool Try.underlying4 _))) (fun sp _ => (trodAll_mk4 (shut_int Try.underlying2 w0) (shut_int Try.underlying2 w1) (shut_int Try.underlying2 w2) (shut_bool Try.underlying4 _))) (fun _ _ => rfl) rfl
    (hg.frame _) hg.2.1 (ok_one (by kernel_rfl) rfl (okWide_bool_mk Try.underlying4 _))⟩

theorem over : Rows.fnArrayLayoutIsCappedProductRow.holds Try.pinned (OpenSpec.ofChange Rows.fnArrayLayoutIsCappedProductSpec) :=
  OpenClaim.holds_of_wide 5 Try.f5 rfl rfl rfl rfl rfl rfl rfl ⟨rfl, rfl, rfl, rfl, rfl⟩ rfl rfl rfl rfl rfl (by kernel_rfl) Try.func5 (by kernel_rfl)
    (of_decide_eq_true (by kernel_rfl)) (by unfold Func.isWrapper; first | (rw [if_pos (by decide +kernel)]; kernel_rfl) | (rw [if_neg (by decide +kernel)]; exact ⟨rfl, rfl⟩))
    (fun os started H enc _ => lifted os started H enc)

/-- ████ THE STATEMENT ████ -/
theorem proved : Rows.FnArrayLayoutIsCappedProductSaid :=
  over
#print axioms proved
end Go.Proofs.Qxb6002360a.fnArrayLayoutIsCappedProduct
