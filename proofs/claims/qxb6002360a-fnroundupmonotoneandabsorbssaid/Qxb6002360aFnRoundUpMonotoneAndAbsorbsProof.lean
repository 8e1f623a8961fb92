/-
  THE PROOF OF 'Rows.FnRoundUpMonotoneAndAbsorbsSaid'. The frame is the guide's shell, written by program for this function; the walk is ours.
-/
import Derived.Test.Qxb6002360aRows
import Derived.Test.Qxb6002360aRoundWalks
import Derived.WalkKit
import Derived.ProofKit
namespace Go.Proofs.Qxb6002360a.fnRoundUpMonotoneAndAbsorbs
open Go.ChangeShapes Go.WideShapes Go.ChangeAt Go.RowKit
open Go.Proofs.Qxb6002360a.Plain
set_option linter.unusedVariables false      -- a walk need not use every 'w<i>' (that an integer argument fits its kind)

theorem own : ownKnob Try.prog.godebug = none := by kernel_rfl

/-! ### STEP 1: THE WALK -/
set_option maxHeartbeats 800000 in
/-- Inside the law's own bounds: every test comes out as the law wants it. -/
theorem walk_in (a0 a1 a2 a3 : Int) (c1 : 0 ≤ a2) (c2 : a2 ≤ a3) (c3 : a3 ≤ 60) (c4 : -2305843009213693952 ≤ a0) (c5 : a0 ≤ a1) (c6 : a1 ≤ 2305843009213693952) (w : World) :
    Calls Try.prog 4 #[.int .i64 a0, .int .i64 a1, .int .i64 a2, .int .i64 a3] w fun e w' => e = .returned (.bool true) ∧ Grown w w' := by
  have HF : Pow2 (wrap64 (2 ^ a2.toNat)) := pow2_wrap a2.toNat (by omega)
  have HC : Pow2 (wrap64 (2 ^ a3.toNat)) := pow2_wrap a3.toNat (by omega)
  have hd : wrap64 (2 ^ a2.toNat) ∣ wrap64 (2 ^ a3.toNat) := pow2_dvd a2.toNat a3.toNat (by omega) (by omega)
  go_enter Try.func4, Try.ntmps4
  go_wp2_with fail
  generalize wrap64 (2 ^ a2.toNat) = F at *
  generalize wrap64 (2 ^ a3.toNat) = C at *
  have lF := HF.lo
  have uF := HF.hi
  have lC := HC.lo
  have uC := HC.hi
  have r1 := rup_ge a0 C (by omega)
  have r2 := rup_lt a0 C (by omega)
  have r3 := rup_ge a0 F (by omega)
  have r4 := rup_lt a0 F (by omega)
  have g1 := rup_mono a0 a1 C (by omega) c5
  have g2 := rup_idem a0 C (by omega)
  have g3 := rup_shift a0 C
  have g4 := rup_fine a0 F C (by omega) (by omega) hd
  have g5 := rup_absorb a0 F C (by omega) (by omega) hd
  clear hd
  refine (zzRoundUp_any a0 C HC c4 (by omega) _).mono ?_
  rintro e w' ⟨rfl, rfl⟩
  go_wp2_with fail
  refine (zzRoundUp_any a1 C HC (by omega) (by omega) _).mono ?_
  rintro e w' ⟨rfl, rfl⟩
  go_wp2_with fail
  refine (zzRoundUp_any (rup a0 C) C HC (by omega) (by omega) _).mono ?_
  rintro e w' ⟨rfl, rfl⟩
  go_wp2_with fail
  refine (zzRoundUp_any (a0 + C) C HC (by omega) (by omega) _).mono ?_
  rintro e w' ⟨rfl, rfl⟩
  go_wp2_with fail
  refine (zzRoundUp_any a0 F HF (by omega) (by omega) _).mono ?_
  rintro e w' ⟨rfl, rfl⟩
  go_wp2_with fail
  refine (zzRoundUp_any (rup a0 F) C HC (by omega) (by omega) _).mono ?_
  rintro e w' ⟨rfl, rfl⟩
  go_wp2
  go_ret
  exact ⟨rfl, by repeat (first | exact Grown.refl _ | apply Grown.drew | apply Grown.alloc)⟩

set_option maxHeartbeats 800000 in
theorem walk (a0 : Int) (a1 : Int) (a2 : Int) (a3 : Int) (w0 : (Lit.int .i64 a0).wf = true) (w1 : (Lit.int .i64 a1).wf = true) (w2 : (Lit.int .i64 a2).wf = true) (w3 : (Lit.int .i64 a3).wf = true) (w : World) :
    Calls Try.prog 4 #[.int .i64 a0, .int .i64 a1, .int .i64 a2, .int .i64 a3] w fun e w' => e = .returned (.bool true) ∧ Grown w w' := by
  clear w0 w1 w2 w3
  by_cases c1 : a2 < 0
  · go_enter Try.func4, Try.ntmps4
    go_wp2
    go_ret
    exact ⟨rfl, by repeat (first | exact Grown.refl _ | apply Grown.drew | apply Grown.alloc)⟩
  by_cases c2 : a3 < a2
  · go_enter Try.func4, Try.ntmps4
    go_wp2
    go_ret
    exact ⟨rfl, by repeat (first | exact Grown.refl _ | apply Grown.drew | apply Grown.alloc)⟩
  by_cases c3 : 60 < a3
  · go_enter Try.func4, Try.ntmps4
    go_wp2
    go_ret
    exact ⟨rfl, by repeat (first | exact Grown.refl _ | apply Grown.drew | apply Grown.alloc)⟩
  by_cases c4 : a0 < -2305843009213693952
  · go_enter Try.func4, Try.ntmps4
    go_wp2
    go_ret
    exact ⟨rfl, by repeat (first | exact Grown.refl _ | apply Grown.drew | apply Grown.alloc)⟩
  by_cases c5 : a1 < a0
  · go_enter Try.func4, Try.ntmps4
    go_wp2
    go_ret
    exact ⟨rfl, by repeat (first | exact Grown.refl _ | apply Grown.drew | apply Grown.alloc)⟩
  by_cases c6 : 2305843009213693952 < a1
  · go_enter Try.func4, Try.ntmps4
    go_wp2
    go_ret
    exact ⟨rfl, by repeat (first | exact Grown.refl _ | apply Grown.drew | apply Grown.alloc)⟩
  exact walk_in a0 a1 a2 a3 (by omega) (by omega) (by omega) (by omega) (by omega) (by omega) w

/-! ### THE ROW's STEP: WRITTEN OUT: LEAVE IT -/
set_option maxRecDepth 100000 in
theorem lifted (os : Os) (started : os.Started) (H : Type) (enc : TypeId × Value → H) :
    ReturnsInHanded {} Try.checked os 4 .any (Rows.fnRoundUpMonotoneAndAbsorbsSpec.pre6 enc Try.prog Try.f4 Rows.fnRoundUpMonotoneAndAbsorbsRow.domain false) (Rows.fnRoundUpMonotoneAndAbsorbsSpec.post enc Try.prog Try.f4 false true false false) := by
  refine returnsInHanded_of_change (C := Try.checked) own started (by kernel_rfl) Try.func4
    (ChangeSpec.witness6 (enc := enc) (C := Try.checked) false ⟨#[], #[.int .i64 0, .int .i64 0, .int .i64 0, .int .i64 0], []⟩ 8 (by kernel_rfl) (by kernel_rfl) (by kernel_rfl) (by kernel_rfl)) ?_
  intro W base args ds gs before hval0 hW hcnd _
  have hval : ∀ (j : Nat) t v, Try.f4.params[j]? = some t → args[j]? = some v → Value.okWide Try.prog W .any base t v := hval0
  have hW' := hW
  obtain ⟨p, q, hA0, hV, rfl, hfz, hnd⟩ := hW
  have hA : DataW.TrodAll enc Try.prog W 0 (fun _ => true) true Try.f4.params.toList args.toList ds p := hA0
  rw [Try.params4] at hA hval
  obtain ⟨v0, vs0, d0, ds0, p0, q0, hargs, rfl, rfl, h0, r0⟩ := trodAll_cons hA
  obtain ⟨v1, vs1, d1, ds1, p1, q1, rfl, rfl, rfl, h1, r1⟩ := trodAll_cons r0
  obtain ⟨v2, vs2, d2, ds2, p2, q2, rfl, rfl, rfl, h2, r2⟩ := trodAll_cons r1
  obtain ⟨v3, vs3, d3, ds3, p3, q3, rfl, rfl, rfl, h3, r3⟩ := trodAll_cons r2
  obtain ⟨rfl, rfl, rfl⟩ := trodAll_nil r3
  obtain rfl : args = #[v0, v1, v2, v3] := by cases args; simp_all
  obtain ⟨rfl, rfl⟩ := trodVars_none hV
  obtain ⟨a0, rfl, rfl, rfl, w0⟩ := open_int Try.underlying2 (hval 0 2 v0 rfl rfl) h0
  obtain ⟨a1, rfl, rfl, rfl, w1⟩ := open_int Try.underlying2 (hval 1 2 v1 rfl rfl) h1
  obtain ⟨a2, rfl, rfl, rfl, w2⟩ := open_int Try.underlying3 (hval 2 3 v2 rfl rfl) h2
  obtain ⟨a3, rfl, rfl, rfl, w3⟩ := open_int Try.underlying3 (hval 3 3 v3 rfl rfl) h3
  clear hA0 hval0
  simp only [List.append_nil] at hW'
  refine (walk a0 a1 a2 a3 w0 w1 w2 w3 W).mono fun e W' ⟨he, hg⟩ => ?_
  subst he
  exact ⟨_, rfl, post_of_same (pa := []) (pv := []) hW' (fun _ _ _ => (trodAll_mk1 (shut_bool Try.underlying4 _))) (fun sp _ => (trodAll_mk4 (shut_int Try.underlying2 w0) (shut_int Try.underlying2 w1) (shut_int Try.underlying3 w2) (shut_int Try.underlying3 w3))) (fun _ _ => rfl) rfl
    (hg.frame _) hg.2.1 (ok_one (by kernel_rfl) rfl (okWide_bool_mk Try.underlying4 _))⟩

theorem over : Rows.fnRoundUpMonotoneAndAbsorbsRow.holds Try.pinned (OpenSpec.ofChange Rows.fnRoundUpMonotoneAndAbsorbsSpec) :=
  OpenClaim.holds_of_wide 4 Try.f4 rfl rfl rfl rfl rfl rfl rfl ⟨rfl, rfl, rfl, rfl, rfl⟩ rfl rfl rfl rfl rfl (by kernel_rfl) Try.func4 (by kernel_rfl)
    (of_decide_eq_true (by kernel_rfl)) (by unfold Func.isWrapper; first | (rw [if_pos (by decide +kernel)]; kernel_rfl) | (rw [if_neg (by decide +kernel)]; exact ⟨rfl, rfl⟩))
    (fun os started H enc _ => lifted os started H enc)

/-- ████ THE STATEMENT ████ -/
theorem proved : Rows.FnRoundUpMonotoneAndAbsorbsSaid :=
  over
#print axioms proved
end Go.Proofs.Qxb6002360a.fnRoundUpMonotoneAndAbsorbs
