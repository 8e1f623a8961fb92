/-
  THE PROOF OF 'Rows.FnArrayLayoutAddsUpToTheCapSaid'. The frame is the guide's shell, written by program for this function; the walk is ours.
-/
import Derived.Test.Qxb6002360aRows
import Derived.Test.Qxb6002360aLayoutWalks
import Derived.WalkKit
import Derived.ProofKit
namespace Go.Proofs.Qxb6002360a.fnArrayLayoutAddsUpToTheCap
open Go.ChangeShapes Go.WideShapes Go.ChangeAt Go.RowKit
open Go.Proofs.Qxb6002360a.Plain
set_option linter.unusedVariables false      -- a walk need not use every 'w<i>' (that an integer argument fits its kind)

theorem own : ownKnob Try.prog.godebug = none := by kernel_rfl

/-! ### THE PLAIN LAW: the answers of the three calls -/
theorem al_bounds (l s : Int) (hl : 0 ≤ l) (hs : 0 ≤ s) : 0 ≤ al l s ∧ al l s ≤ 1125899906842624 := by
  have h0 : 0 ≤ l * s := Int.mul_nonneg hl hs
  unfold al
  split <;> omega
/-- Together below the cap: the sizes add up, nothing is over. -/
theorem adds_small (l1 l2 s : Int) (h1 : 0 ≤ l1) (h2 : 0 ≤ l2) (hs : 0 ≤ s) (h : al l1 s + al l2 s < 1125899906842624) :
    ov l1 s = false ∧ ov l2 s = false ∧ al (l1 + l2) s = al l1 s + al l2 s ∧ ov (l1 + l2) s = false := by
  have p1 : 0 ≤ l1 * s := Int.mul_nonneg h1 hs
  have p2 : 0 ≤ l2 * s := Int.mul_nonneg h2 hs
  have e : (l1 + l2) * s = l1 * s + l2 * s := Int.add_mul l1 l2 s
  unfold al ov at *
  rw [e]
  generalize l1 * s = P1 at *
  generalize l2 * s = P2 at *
  clear e
  have q1 : ¬ 1125899906842624 ≤ P1 := by intro c; rw [if_pos c] at h; split at h <;> omega
  have q2 : ¬ 1125899906842624 ≤ P2 := by intro c; rw [if_pos c] at h; split at h <;> omega
  rw [if_neg q1, if_neg q2] at *
  have q3 : ¬ 1125899906842624 ≤ P1 + P2 := by omega
  simp [q1, q2, q3]
/-- Together at the cap or beyond: the whole is of the cap's size, and over. -/
theorem adds_great (l1 l2 s : Int) (h1 : 0 ≤ l1) (h2 : 0 ≤ l2) (hs : 0 ≤ s) (h : 1125899906842624 ≤ al l1 s + al l2 s) :
    al (l1 + l2) s = 1125899906842624 ∧ ov (l1 + l2) s = true := by
  have p1 : 0 ≤ l1 * s := Int.mul_nonneg h1 hs
  have p2 : 0 ≤ l2 * s := Int.mul_nonneg h2 hs
  have e : (l1 + l2) * s = l1 * s + l2 * s := Int.add_mul l1 l2 s
  unfold al ov at *
  rw [e]
  generalize l1 * s = P1 at *
  generalize l2 * s = P2 at *
  clear e
  have q3 : 1125899906842624 ≤ P1 + P2 := by split at h <;> split at h <;> omega
  simp [q3]

/-! ### STEP 1: THE WALK -/
set_option maxHeartbeats 800000 in
theorem walk_small (l1 l2 s a S1 S2 : Int) (b1 : 0 ≤ l1) (b2 : 0 ≤ l2) (b3 : 0 ≤ s) (b4 : l1 < 4611686018427387904) (b5 : l2 < 4611686018427387904) (b6 : 0 ≤ l1 + l2)
    (t1 : 0 ≤ S1) (t2 : S1 ≤ 1125899906842624) (t3 : 0 ≤ S2) (t4 : S2 ≤ 1125899906842624) (t5 : S1 + S2 < 1125899906842624)
    (E1 : Hid (al l1 s = S1 ∧ ov l1 s = false)) (E2 : Hid (al l2 s = S2 ∧ ov l2 s = false)) (E3 : Hid (al (l1 + l2) s = S1 + S2 ∧ ov (l1 + l2) s = false)) (w : World) :
    Calls Try.prog 6 #[.int .i64 l1, .int .i64 l2, .int .i64 s, .int .i64 a] w fun e w' => e = .returned (.bool true) ∧ Grown w w' := by
  go_enter Try.func6, Try.ntmps6
  go_wp2_with fail
  refine (zzArrayLayout_is l1 s a false b1 b3 S1 false E1 _).mono ?_
  rintro e w1 ⟨rfl, k1⟩
  go_wp2_with fail
  refine (zzArrayLayout_is l2 s a false b2 b3 S2 false E2 _).mono ?_
  rintro e w2 ⟨rfl, k2⟩
  go_wp2_with fail
  refine (zzArrayLayout_is (l1 + l2) s a false b6 b3 (S1 + S2) false E3 _).mono ?_
  rintro e w3 ⟨rfl, k3⟩
  go_wp2
  go_ret
  exact ⟨rfl, grown_trans k1 (grown_trans k2 k3)⟩

set_option maxHeartbeats 800000 in
theorem walk_great (l1 l2 s a S1 S2 : Int) (O1 O2 : Bool) (b1 : 0 ≤ l1) (b2 : 0 ≤ l2) (b3 : 0 ≤ s) (b4 : l1 < 4611686018427387904) (b5 : l2 < 4611686018427387904) (b6 : 0 ≤ l1 + l2)
    (t1 : 0 ≤ S1) (t2 : S1 ≤ 1125899906842624) (t3 : 0 ≤ S2) (t4 : S2 ≤ 1125899906842624) (t5 : 1125899906842624 < S1 + S2) (t6 : 1125899906842624 ≤ S1 + S2)
    (E1 : Hid (al l1 s = S1 ∧ ov l1 s = O1)) (E2 : Hid (al l2 s = S2 ∧ ov l2 s = O2)) (E3 : Hid (al (l1 + l2) s = 1125899906842624 ∧ ov (l1 + l2) s = true)) (w : World) :
    Calls Try.prog 6 #[.int .i64 l1, .int .i64 l2, .int .i64 s, .int .i64 a] w fun e w' => e = .returned (.bool true) ∧ Grown w w' := by
  cases O1 <;> cases O2
  all_goals
    go_enter Try.func6, Try.ntmps6
    go_wp2_with fail
    refine (zzArrayLayout_is l1 s a false b1 b3 S1 _ E1 _).mono ?_
    rintro e w1 ⟨rfl, k1⟩
    go_wp2_with fail
    refine (zzArrayLayout_is l2 s a false b2 b3 S2 _ E2 _).mono ?_
    rintro e w2 ⟨rfl, k2⟩
    go_wp2_with fail
    refine (zzArrayLayout_is (l1 + l2) s a false b6 b3 1125899906842624 true E3 _).mono ?_
    rintro e w3 ⟨rfl, k3⟩
    go_wp2
    go_ret
    exact ⟨rfl, grown_trans k1 (grown_trans k2 k3)⟩

set_option maxHeartbeats 800000 in
theorem walk_level (l1 l2 s a S1 S2 : Int) (O1 O2 : Bool) (b1 : 0 ≤ l1) (b2 : 0 ≤ l2) (b3 : 0 ≤ s) (b4 : l1 < 4611686018427387904) (b5 : l2 < 4611686018427387904) (b6 : 0 ≤ l1 + l2)
    (t1 : 0 ≤ S1) (t2 : S1 ≤ 1125899906842624) (t3 : 0 ≤ S2) (t4 : S2 ≤ 1125899906842624) (t5 : 1125899906842624 ≤ S1 + S2) (t6 : S1 + S2 ≤ 1125899906842624)
    (E1 : Hid (al l1 s = S1 ∧ ov l1 s = O1)) (E2 : Hid (al l2 s = S2 ∧ ov l2 s = O2)) (E3 : Hid (al (l1 + l2) s = 1125899906842624 ∧ ov (l1 + l2) s = true)) (w : World) :
    Calls Try.prog 6 #[.int .i64 l1, .int .i64 l2, .int .i64 s, .int .i64 a] w fun e w' => e = .returned (.bool true) ∧ Grown w w' := by
  cases O1 <;> cases O2
  all_goals
    go_enter Try.func6, Try.ntmps6
    go_wp2_with fail
    refine (zzArrayLayout_is l1 s a false b1 b3 S1 _ E1 _).mono ?_
    rintro e w1 ⟨rfl, k1⟩
    go_wp2_with fail
    refine (zzArrayLayout_is l2 s a false b2 b3 S2 _ E2 _).mono ?_
    rintro e w2 ⟨rfl, k2⟩
    go_wp2_with fail
    refine (zzArrayLayout_is (l1 + l2) s a false b6 b3 1125899906842624 true E3 _).mono ?_
    rintro e w3 ⟨rfl, k3⟩
    go_wp2
    go_ret
    exact ⟨rfl, grown_trans k1 (grown_trans k2 k3)⟩

set_option maxHeartbeats 800000 in
theorem walk (a0 : Int) (a1 : Int) (a2 : Int) (a3 : Int) (w0 : (Lit.int .i64 a0).wf = true) (w1 : (Lit.int .i64 a1).wf = true) (w2 : (Lit.int .i64 a2).wf = true) (w3 : (Lit.int .i64 a3).wf = true) (w : World) :
    Calls Try.prog 6 #[.int .i64 a0, .int .i64 a1, .int .i64 a2, .int .i64 a3] w fun e w' => e = .returned (.bool true) ∧ Grown w w' := by
  clear w0 w1 w2 w3
  by_cases c1 : a0 < 0
  · go_enter Try.func6, Try.ntmps6
    go_wp2
    go_ret
    exact ⟨rfl, by repeat (first | exact Grown.refl _ | apply Grown.drew | apply Grown.alloc)⟩
  by_cases c2 : a1 < 0
  · go_enter Try.func6, Try.ntmps6
    go_wp2
    go_ret
    exact ⟨rfl, by repeat (first | exact Grown.refl _ | apply Grown.drew | apply Grown.alloc)⟩
  by_cases c3 : a2 < 0
  · go_enter Try.func6, Try.ntmps6
    go_wp2
    go_ret
    exact ⟨rfl, by repeat (first | exact Grown.refl _ | apply Grown.drew | apply Grown.alloc)⟩
  by_cases c4 : 4611686018427387904 ≤ a0
  · go_enter Try.func6, Try.ntmps6
    go_wp2
    go_ret
    exact ⟨rfl, by repeat (first | exact Grown.refl _ | apply Grown.drew | apply Grown.alloc)⟩
  by_cases c5 : 4611686018427387904 ≤ a1
  · go_enter Try.func6, Try.ntmps6
    go_wp2
    go_ret
    exact ⟨rfl, by repeat (first | exact Grown.refl _ | apply Grown.drew | apply Grown.alloc)⟩
  have d0 : 0 ≤ a0 := by omega
  have d1 : 0 ≤ a1 := by omega
  have d2 : 0 ≤ a2 := by omega
  obtain ⟨t1, t2⟩ := al_bounds a0 a2 d0 d2
  obtain ⟨t3, t4⟩ := al_bounds a1 a2 d1 d2
  by_cases g : al a0 a2 + al a1 a2 < 1125899906842624
  · obtain ⟨e1, e2, e3, e4⟩ := adds_small a0 a1 a2 d0 d1 d2 g
    exact walk_small a0 a1 a2 a3 _ _ d0 d1 d2 (by omega) (by omega) (by omega) t1 t2 t3 t4 g ⟨rfl, e1⟩ ⟨rfl, e2⟩ ⟨e3, e4⟩ w
  · obtain ⟨e3, e4⟩ := adds_great a0 a1 a2 d0 d1 d2 (by omega)
    by_cases g' : 1125899906842624 < al a0 a2 + al a1 a2
    · exact walk_great a0 a1 a2 a3 _ _ _ _ d0 d1 d2 (by omega) (by omega) (by omega) t1 t2 t3 t4 g' (by omega) ⟨rfl, rfl⟩ ⟨rfl, rfl⟩ ⟨e3, e4⟩ w
    · exact walk_level a0 a1 a2 a3 _ _ _ _ d0 d1 d2 (by omega) (by omega) (by omega) t1 t2 t3 t4 (by omega) (by omega) ⟨rfl, rfl⟩ ⟨rfl, rfl⟩ ⟨e3, e4⟩ w

/-! ### THE ROW's STEP: WRITTEN OUT: LEAVE IT -/
set_option maxRecDepth 100000 in
theorem lifted (os : Os) (started : os.Started) (H : Type) (enc : TypeId × Value → H) :
    ReturnsInHanded {} Try.checked os 6 .any (Rows.fnArrayLayoutAddsUpToTheCapSpec.pre6 enc Try.prog Try.f6 Rows.fnArrayLayoutAddsUpToTheCapRow.domain false) (Rows.fnArrayLayoutAddsUpToTheCapSpec.post enc Try.prog Try.f6 false true false false) := by
  refine returnsInHanded_of_change (C := Try.checked) own started (by kernel_rfl) Try.func6
    (ChangeSpec.witness6 (enc := enc) (C := Try.checked) false ⟨#[], #[.int .i64 0, .int .i64 0, .int .i64 0, .int .i64 0], []⟩ 8 (by kernel_rfl) (by kernel_rfl) (by kernel_rfl) (by kernel_rfl)) ?_
  intro W base args ds gs before hval0 hW hcnd _
  have hval : ∀ (j : Nat) t v, Try.f6.params[j]? = some t → args[j]? = some v → Value.okWide Try.prog W .any base t v := hval0
  have hW' := hW
  obtain ⟨p, q, hA0, hV, rfl, hfz, hnd⟩ := hW
  have hA : DataW.TrodAll enc Try.prog W 0 (fun _ => true) true Try.f6.params.toList args.toList ds p := hA0
  rw [Try.params6] at hA hval
  obtain ⟨v0, vs0, d0, ds0, p0, q0, hargs, rfl, rfl, h0, r0⟩ := trodAll_cons hA
  obtain ⟨v1, vs1, d1, ds1, p1, q1, rfl, rfl, rfl, h1, r1⟩ := trodAll_cons r0
  obtain ⟨v2, vs2, d2, ds2, p2, q2, rfl, rfl, rfl, h2, r2⟩ := trodAll_cons r1
  obtain ⟨v3, vs3, d3, ds3, p3, q3, rfl, rfl, rfl, h3, r3⟩ := trodAll_cons r2
  obtain ⟨rfl, rfl, rfl⟩ := trodAll_nil r3
  obtain rfl : args = #[v0, v1, v2, v3] := by cases args; simp_all
  obtain ⟨rfl, rfl⟩ := trodVars_none hV
  obtain ⟨a0, rfl, rfl, rfl, w0⟩ := open_int Try.underlying2 (hval 0 2 v0 rfl rfl) h0
  obtain ⟨a1, rfl, rfl, rfl, w1⟩ := open_int Try.underlying2 (hval 1 2 v1 rfl rfl) h1
  obtain ⟨a2, rfl, rfl, rfl, w2⟩ := open_int Try.underlying2 (hval 2 2 v2 rfl rfl) h2
  obtain ⟨a3, rfl, rfl, rfl, w3⟩ := open_int Try.underlying2 (hval 3 2 v3 rfl rfl) h3
  clear hA0 hval0
  simp only [List.append_nil] at hW'
  refine (walk a0 a1 a2 a3 w0 w1 w2 w3 W).mono fun e W' ⟨he, hg⟩ => ?_
  subst he
  exact ⟨_, rfl, post_of_same (pa := []) (pv := []) hW' (fun _ _ _ => (trodAll_mk1 (shut_bool Try.underlying4 _))) (fun sp _ => (trodAll_mk4 (shut_int Try.underlying2 w0) (shut_int Try.underlying2 w1) (shut_int Try.underlying2 w2) (shut_int Try.underlying2 w3))) (fun _ _ => rfl) rfl
    (hg.frame _) hg.2.1 (ok_one (by kernel_rfl) rfl (okWide_bool_mk Try.underlying4 _))⟩

theorem over : Rows.fnArrayLayoutAddsUpToTheCapRow.holds Try.pinned (OpenSpec.ofChange Rows.fnArrayLayoutAddsUpToTheCapSpec) :=
  OpenClaim.holds_of_wide 6 Try.f6 rfl rfl rfl rfl rfl rfl rfl ⟨rfl, rfl, rfl, rfl, rfl⟩ rfl rfl rfl rfl rfl (by kernel_rfl) Try.func6 (by kernel_rfl)
    (of_decide_eq_true (by kernel_rfl)) (by unfold Func.isWrapper; first | (rw [if_pos (by decide +kernel)]; kernel_rfl) | (rw [if_neg (by decide +kernel)]; exact ⟨rfl, rfl⟩))
    (fun os started H enc _ => lifted os started H enc)

/-- ████ THE STATEMENT ████ -/
theorem proved : Rows.FnArrayLayoutAddsUpToTheCapSaid :=
  over
#print axioms proved
end Go.Proofs.Qxb6002360a.fnArrayLayoutAddsUpToTheCap
