/-
  'Rows.FnMissPercentBoundsAndOrderSaid', proved: the frame by the guide's program, the walk over Qxb6613305aMiss, Qxb6613305aMissB.
-/
import Derived.Test.Qxb6613305aRows
import Derived.Test.Qxb6613305aMissB
import Derived.WalkKit
import Derived.ProofKit
import Derived.OpenShut
import Derived.ShutString
namespace Go.Proofs.Qxb6613305a.fnMissPercentBoundsAndOrder
open Go.ChangeShapes Go.WideShapes Go.ChangeAt Go.RowKit
open Go.ChangeMaps (open_string shut_string)
set_option linter.unusedVariables false      -- a walk need not use every 'w<i>' (that an integer argument fits its kind)

theorem own : ownKnob Try.prog.godebug = none := by kernel_rfl

/-! ### STEP 1: THE WALK: the Go text returns true. 'Grown w w'': the world has at most new blocks (Derived/RowKit3.lean). Part the cases AHEAD of 'go_enter' where a test parts the walk; take each callee by a contract of your own. -/
set_option maxHeartbeats 600000 in
theorem main_lt (a0 a1 a2 : Int) (h0 : 1 ≤ a0) (h1 : 0 ≤ a1) (h2 : 0 ≤ a2) (h3 : a0 ≤ 1099511627776) (h4 : a1 ≤ 1099511627776) (h5 : a2 ≤ 1099511627776) (hx : a1 + a2 < a0)
    (f : Int → Int → Int → Nat) (hc : MpC f) (r hi rk rl rm : Nat) (b0 : Bool) (m1 : MpIs f a0 a1 a2 r) (m2 : MpIs f a0 (a1 + 1) a2 rk) (m3 : MpIs f a0 a1 (a2 + 1) rl) (m4 : MpIs f (a0 + 1) a1 a2 rm)
    (hadd : ∀ w : World, (binOp .add 46 (.float .f64 (floatOfInt .f64 (100 * (a1 + a2) / a0))) (.float .f64 4607182418800017408)).run Try.prog w = .ok (.float .f64 hi) w)
    (t1 : (FloatKind.f64.format.order r 0 == some .lt) = false)
    (t2 : (FloatKind.f64.format.order r 4636737291354636288 == some .gt) = false)
    (t3 : (FloatKind.f64.format.order r 4636737291354636288 == some .eq) = false)
    (e3 : ((a1 + a2) == a0) = false)
    (t4 : (FloatKind.f64.format.order r 0 == some .eq) = b0)
    (e4 : ((a1 + a2) == 0) = b0)
    (t5 : (FloatKind.f64.format.order r (floatOfInt .f64 (100 * (a1 + a2) / a0)) == some .lt) = false)
    (t6 : (FloatKind.f64.format.order r hi == some .gt) = false)
    (t7 : (FloatKind.f64.format.order rk r == some .gt) = true)
    (t8 : (FloatKind.f64.format.order rl r == some .gt) = true)
    (t9 : (FloatKind.f64.format.order rm r == some .gt) = false) (w : World) :
    Calls Try.prog 6 #[.int .i64 a0, .int .i64 a1, .int .i64 a2] w fun e w' => e = .returned (.bool true) ∧ Grown w w' := by
  go_enter Try.func6, Try.ntmps6
  go_wp2_with fail
  refine (mp_r hc _ _ _ r m1 (by omega) (by omega) (by omega) (by omega) (by omega) (by omega) _).mono ?_
  rintro e w1 ⟨rfl, g1⟩
  go_wp2_with fail
  refine (mp_r hc _ _ _ rk m2 (by omega) (by omega) (by omega) (by omega) (by omega) (by omega) _).mono ?_
  rintro e w2 ⟨rfl, g2⟩
  go_wp2_with fail
  refine (mp_r hc _ _ _ rl m3 (by omega) (by omega) (by omega) (by omega) (by omega) (by omega) _).mono ?_
  rintro e w3 ⟨rfl, g3⟩
  go_wp2_with fail
  refine (mp_r hc _ _ _ rm m4 (by omega) (by omega) (by omega) (by omega) (by omega) (by omega) _).mono ?_
  rintro e w4 ⟨rfl, g4⟩
  go_wp2_with fail
  go_ret
  exact ⟨rfl, grown_trans (grown_trans (grown_trans g1 g2) g3) g4⟩

set_option maxHeartbeats 600000 in
theorem main_eq (a0 a1 a2 : Int) (h0 : 1 ≤ a0) (h1 : 0 ≤ a1) (h2 : 0 ≤ a2) (h3 : a0 ≤ 1099511627776) (h4 : a1 ≤ 1099511627776) (h5 : a2 ≤ 1099511627776) (hx : a0 ≤ a1 + a2) (hx' : a1 + a2 ≤ a0)
    (f : Int → Int → Int → Nat) (hc : MpC f) (r hi rm : Nat) (b0 : Bool) (m1 : MpIs f a0 a1 a2 r) (m4 : MpIs f (a0 + 1) a1 a2 rm)
    (hadd : ∀ w : World, (binOp .add 46 (.float .f64 (floatOfInt .f64 (100 * (a1 + a2) / a0))) (.float .f64 4607182418800017408)).run Try.prog w = .ok (.float .f64 hi) w)
    (t1 : (FloatKind.f64.format.order r 0 == some .lt) = false)
    (t2 : (FloatKind.f64.format.order r 4636737291354636288 == some .gt) = false)
    (t3 : (FloatKind.f64.format.order r 4636737291354636288 == some .eq) = true)
    (e3 : ((a1 + a2) == a0) = true)
    (t4 : (FloatKind.f64.format.order r 0 == some .eq) = b0)
    (e4 : ((a1 + a2) == 0) = b0)
    (t5 : (FloatKind.f64.format.order r (floatOfInt .f64 (100 * (a1 + a2) / a0)) == some .lt) = false)
    (t6 : (FloatKind.f64.format.order r hi == some .gt) = false)
    (t9 : (FloatKind.f64.format.order rm r == some .gt) = false) (w : World) :
    Calls Try.prog 6 #[.int .i64 a0, .int .i64 a1, .int .i64 a2] w fun e w' => e = .returned (.bool true) ∧ Grown w w' := by
  go_enter Try.func6, Try.ntmps6
  go_wp2_with fail
  refine (mp_r hc _ _ _ r m1 (by omega) (by omega) (by omega) (by omega) (by omega) (by omega) _).mono ?_
  rintro e w1 ⟨rfl, g1⟩
  go_wp2_with fail
  refine (mp_r hc _ _ _ rm m4 (by omega) (by omega) (by omega) (by omega) (by omega) (by omega) _).mono ?_
  rintro e w4 ⟨rfl, g4⟩
  go_wp2_with fail
  go_ret
  exact ⟨rfl, grown_trans g1 g4⟩

set_option maxHeartbeats 400000 in
theorem walk (a0 : Int) (a1 : Int) (a2 : Int) (w0 : (Lit.int .i64 a0).wf = true) (w1 : (Lit.int .i64 a1).wf = true) (w2 : (Lit.int .i64 a2).wf = true) (w : World) :
    Calls Try.prog 6 #[.int .i64 a0, .int .i64 a1, .int .i64 a2] w fun e w' => e = .returned (.bool true) ∧ Grown w w' := by
  clear w0 w1 w2
  by_cases h0 : 1 ≤ a0
  case neg =>
    go_enter Try.func6, Try.ntmps6
    go_wp2_with fail
    go_ret
    exact ⟨rfl, Grown.refl _⟩
  by_cases h1 : 0 ≤ a1
  case neg =>
    go_enter Try.func6, Try.ntmps6
    go_wp2_with fail
    go_ret
    exact ⟨rfl, Grown.refl _⟩
  by_cases h2 : 0 ≤ a2
  case neg =>
    go_enter Try.func6, Try.ntmps6
    go_wp2_with fail
    go_ret
    exact ⟨rfl, Grown.refl _⟩
  by_cases h3 : a0 ≤ 1099511627776
  case neg =>
    go_enter Try.func6, Try.ntmps6
    go_wp2_with fail
    go_ret
    exact ⟨rfl, Grown.refl _⟩
  by_cases h4 : a1 ≤ 1099511627776
  case neg =>
    go_enter Try.func6, Try.ntmps6
    go_wp2_with fail
    go_ret
    exact ⟨rfl, Grown.refl _⟩
  by_cases h5 : a2 ≤ 1099511627776
  case neg =>
    go_enter Try.func6, Try.ntmps6
    go_wp2_with fail
    go_ret
    exact ⟨rfl, Grown.refl _⟩
  by_cases hx : a1 + a2 ≤ a0
  case neg =>
    go_enter Try.func6, Try.ntmps6
    go_wp2_with fail
    go_ret
    exact ⟨rfl, Grown.refl _⟩
  obtain ⟨r, hi, rk, rl, rm, m1, m2, m3, m4, ha, t1, t2, t3, t4, t5, t6, t7, t8, t9⟩ := bounds_facts a0 a1 a2 h0 h1 h2 h3 hx
  have e4 : ((a1 + a2) == 0) = decide (a1 + a2 = 0) := rfl
  by_cases hy : a1 + a2 < a0
  · rw [decide_eq_false (show ¬ (a1 + a2 = a0) by omega)] at t3
    exact main_lt a0 a1 a2 h0 h1 h2 h3 h4 h5 hy mpv mp_c r hi rk rl rm _ m1 m2 m3 m4 (fun w => run_float_arith w .add 46 .f64 _ _ _ ha) t1 t2 t3 (beq_eq_false_iff_ne.2 (by omega)) t4 e4 t5 t6 t7 t8 t9 w
  · rw [decide_eq_true (show a1 + a2 = a0 by omega)] at t3
    exact main_eq a0 a1 a2 h0 h1 h2 h3 h4 h5 (by omega) hx mpv mp_c r hi rm _ m1 m4 (fun w => run_float_arith w .add 46 .f64 _ _ _ ha) t1 t2 t3 (beq_iff_eq.2 (by omega)) t4 e4 t5 t6 t9 w

/-! ### THE ROW's STEP: WRITTEN OUT: LEAVE IT -/
set_option maxRecDepth 100000 in
theorem lifted (os : Os) (started : os.Started) (H : Type) (enc : TypeId × Value → H) :
    ReturnsInHanded {} Try.checked os 6 .any (Rows.fnMissPercentBoundsAndOrderSpec.pre6 enc Try.prog Try.f6 Rows.fnMissPercentBoundsAndOrderRow.domain false) (Rows.fnMissPercentBoundsAndOrderSpec.post enc Try.prog Try.f6 false true false false) := by
  refine returnsInHanded_of_change (C := Try.checked) own started (by kernel_rfl) Try.func6
    (ChangeSpec.witness6 (enc := enc) (C := Try.checked) false ⟨#[], #[.int .i64 0, .int .i64 0, .int .i64 0], []⟩ 8 (by kernel_rfl) (by kernel_rfl) (by kernel_rfl) (by kernel_rfl)) ?_
  intro W base args ds gs before hval0 hW hcnd _
  have hval : ∀ (j : Nat) t v, Try.f6.params[j]? = some t → args[j]? = some v → Value.okWide Try.prog W .any base t v := hval0
  have hW' := hW
  obtain ⟨p, q, hA0, hV, rfl, hfz, hnd⟩ := hW
  have hA : DataW.TrodAll enc Try.prog W 0 (fun _ => true) true Try.f6.params.toList args.toList ds p := hA0
  rw [Try.params6] at hA hval
  obtain ⟨v0, vs0, d0, ds0, p0, q0, hargs, rfl, rfl, h0, r0⟩ := trodAll_cons hA
  obtain ⟨v1, vs1, d1, ds1, p1, q1, rfl, rfl, rfl, h1, r1⟩ := trodAll_cons r0
  obtain ⟨v2, vs2, d2, ds2, p2, q2, rfl, rfl, rfl, h2, r2⟩ := trodAll_cons r1
  obtain ⟨rfl, rfl, rfl⟩ := trodAll_nil r2
  obtain rfl : args = #[v0, v1, v2] := by cases args; simp_all
  obtain ⟨rfl, rfl⟩ := trodVars_none hV
  obtain ⟨a0, rfl, rfl, rfl, w0⟩ := open_int Try.underlying3 (hval 0 3 v0 rfl rfl) h0
  obtain ⟨a1, rfl, rfl, rfl, w1⟩ := open_int Try.underlying3 (hval 1 3 v1 rfl rfl) h1
  obtain ⟨a2, rfl, rfl, rfl, w2⟩ := open_int Try.underlying3 (hval 2 3 v2 rfl rfl) h2
  clear hA0 hval0
  simp only [List.append_nil] at hW'
  refine (walk a0 a1 a2 w0 w1 w2 W).mono fun e W' ⟨he, hg⟩ => ?_
  subst he
  exact ⟨_, rfl, post_of_same (pa := []) (pv := []) hW' (fun _ _ _ => (trodAll_cons_mk (shut_bool Try.underlying4 _) trodAll_mk0)) (fun sp _ => (trodAll_cons_mk (shut_int Try.underlying3 w0) (trodAll_cons_mk (shut_int Try.underlying3 w1) (trodAll_cons_mk (shut_int Try.underlying3 w2) trodAll_mk0)))) (fun _ _ => rfl) rfl
    (hg.frame _) hg.2.1 (ok_one (by kernel_rfl) rfl (okWide_bool_mk Try.underlying4 _))⟩

theorem over : Rows.fnMissPercentBoundsAndOrderRow.holds Try.pinned (OpenSpec.ofChange Rows.fnMissPercentBoundsAndOrderSpec) :=
  OpenClaim.holds_of_wide 6 Try.f6 rfl rfl rfl rfl rfl rfl rfl ⟨rfl, rfl, rfl, rfl, rfl⟩ rfl rfl rfl rfl rfl (by kernel_rfl) Try.func6 (by kernel_rfl)
    (of_decide_eq_true (by kernel_rfl)) (by unfold Func.isWrapper; first | (rw [if_pos (by decide +kernel)]; kernel_rfl) | (rw [if_neg (by decide +kernel)]; exact ⟨rfl, rfl⟩))
    (fun os started H enc _ => lifted os started H enc)

/-- ████ THE STATEMENT ████ -/
theorem proved : Rows.FnMissPercentBoundsAndOrderSaid :=
  over
end Go.Proofs.Qxb6613305a.fnMissPercentBoundsAndOrder
