/-
  Proof of 'Rows.FnMagnitudeDistanceSaid' over the frame that proof-skeleton.mjs wrote for this function.
-/
import Derived.Test.Qxb6617344aRows
import Derived.WalkKit
import Derived.ProofKit
import Derived.OpenShut
import Derived.ShutString
import Derived.Handy
namespace Go.Proofs.Qxb6617344a.fnMagnitudeDistance
open Go.ChangeShapes Go.WideShapes Go.ChangeAt Go.RowKit
open Go.ChangeMaps (open_string shut_string)
set_option linter.unusedVariables false      -- a walk need not use every 'w<i>' (that an integer argument fits its kind)

theorem own : ownKnob Try.prog.godebug = none := by kernel_rfl


/-! ### The plain numbers -/
def magL (x : Int) : Int := if x < 0 then -x else x
def distL (x y : Int) : Int := if y ≤ x then x - y else y - x
theorem ret_int {k : IntKind} {a b : Int} (h : a = b) : Ending.returned (.int k a) = .returned (.int k b) := by rw [h]
theorem mag_neg (x : Int) (h0 : -9223372036854775808 ≤ x) (hx : x < 0) : IntKind.u64.wrap (wrap64 (-x)) = magL x := by
  unfold magL; rw [if_pos hx]
  simp only [wrap64, IntKind.wrap_u64]; omega
theorem mag_pos (x : Int) (hx : 0 ≤ x) : x = magL x := by
  unfold magL; rw [if_neg (by omega)]
theorem magL_bd (x : Int) (h0 : -9223372036854775808 ≤ x) (h1 : x ≤ 9223372036854775807) : 0 ≤ magL x ∧ magL x ≤ 9223372036854775808 := by
  unfold magL; split <;> omega

/-! ### The walks -/
theorem mag_calls (x : Int) (w : World) (h0 : -9223372036854775808 ≤ x) (h1 : x ≤ 9223372036854775807) :
    Calls Try.prog 6 #[.int .i64 x] w fun e w' => e = .returned (.int .u64 (magL x)) ∧ w' = w := by
  by_cases hx : x < 0
  · go_enter Try.func6, Try.ntmps6
    go_wp2
    go_ret
    exact ⟨ret_int (mag_neg x h0 hx), rfl⟩
  · go_enter Try.func6, Try.ntmps6
    go_wp2
    go_ret
    exact ⟨ret_int (mag_pos x (by omega)), rfl⟩
theorem dist_sub (x y : Int) (h0 : -9223372036854775808 ≤ x) (h1 : x ≤ 9223372036854775807) (h2 : -9223372036854775808 ≤ y) (h3 : y ≤ 9223372036854775807) (h : y ≤ x) :
    IntKind.u64.wrap (IntKind.u64.wrap x - IntKind.u64.wrap y) = x - y := by
  simp only [IntKind.wrap_u64]; omega
theorem dist_calls (x y : Int) (w : World) (h0 : -9223372036854775808 ≤ x) (h1 : x ≤ 9223372036854775807) (h2 : -9223372036854775808 ≤ y) (h3 : y ≤ 9223372036854775807) :
    Calls Try.prog 5 #[.int .i64 x, .int .i64 y] w fun e w' => e = .returned (.int .u64 (distL x y)) ∧ w' = w := by
  by_cases hx : y ≤ x
  · go_enter Try.func5, Try.ntmps5
    go_wp2
    go_ret
    exact ⟨ret_int (by unfold distL; rw [if_pos hx]; exact dist_sub x y h0 h1 h2 h3 hx), rfl⟩
  · go_enter Try.func5, Try.ntmps5
    go_wp2
    go_ret
    exact ⟨ret_int (by unfold distL; rw [if_neg (by omega)]; exact dist_sub y x h2 h3 h0 h1 (by omega)), rfl⟩
theorem adiff_calls (x y : Int) (w : World) (h0 : 0 ≤ x) (h1 : x ≤ 18446744073709551615) (h2 : 0 ≤ y) (h3 : y ≤ 18446744073709551615) :
    Calls Try.prog 7 #[.int .u64 x, .int .u64 y] w fun e w' => e = .returned (.int .u64 (distL x y)) ∧ w' = w := by
  by_cases hx : y ≤ x
  · go_enter Try.func7, Try.ntmps7
    go_wp2
    go_ret
    exact ⟨ret_int (by unfold distL; rw [if_pos hx]), rfl⟩
  · go_enter Try.func7, Try.ntmps7
    go_wp2
    go_ret
    exact ⟨ret_int (by unfold distL; rw [if_neg (by omega)]), rfl⟩
/-- THE PLAIN LAW. -/
theorem same_side (x y : Int) (h : (x < 0) ↔ (y < 0)) : distL (magL x) (magL y) = distL x y := by
  unfold distL magL
  by_cases hx : x < 0
  · have hy := h.1 hx
    rw [if_pos hx, if_pos hy]; split <;> split <;> omega
  · have hy : ¬ y < 0 := fun k => hx (h.2 k)
    rw [if_neg hx, if_neg hy]
theorem other_side (x y : Int) (h : (x < 0 ∧ 0 ≤ y) ∨ (0 ≤ x ∧ y < 0)) : magL x + magL y = distL x y := by
  unfold distL magL; split <;> split <;> split <;> omega
theorem sum_bd (x y : Int) (h0 : -9223372036854775808 ≤ x) (h1 : x ≤ 9223372036854775807) (h2 : -9223372036854775808 ≤ y) (h3 : y ≤ 9223372036854775807)
    (h : (x < 0 ∧ 0 ≤ y) ∨ (0 ≤ x ∧ y < 0)) : magL x + magL y ≤ 18446744073709551615 := by
  unfold magL; split <;> split <;> omega
theorem walk_other (x y : Int) (w : World) (h0 : -9223372036854775808 ≤ x) (h1 : x ≤ 9223372036854775807) (h2 : -9223372036854775808 ≤ y) (h3 : y ≤ 9223372036854775807)
    (h : (x < 0 ∧ 0 ≤ y) ∨ (0 ≤ x ∧ y < 0)) :
    Calls Try.prog 3 #[.int .i64 x, .int .i64 y] w fun e w' => e = .returned (.bool true) ∧ w' = w := by
  obtain ⟨bx, bx'⟩ := magL_bd x h0 h1
  obtain ⟨bz, bz'⟩ := magL_bd y h2 h3
  have hb := sum_bd x y h0 h1 h2 h3 h
  have hq : (magL x + magL y == distL x y) = true := by rw [other_side x y h]; exact beq_self_eq_true _
  rcases h with ⟨a, b⟩ | ⟨a, b⟩
  · have e1 : decide (x < 0) = true := by simp [a]
    have e2 : decide (y < 0) = false := by simp [b]
    go_enter Try.func3, Try.ntmps3
    go_wp2_with (first | (go_at_call 5; refine (dist_calls _ _ _ h0 h1 h2 h3).mono ?_; rintro e w' ⟨rfl, rfl⟩) | (go_at_call 6; refine (mag_calls _ _ (by omega) (by omega)).mono ?_; rintro e w' ⟨rfl, rfl⟩))
    go_ret
    exact ⟨rfl, rfl⟩
  · have e1 : decide (x < 0) = false := by simp [a]
    have e2 : decide (y < 0) = true := by simp [b]
    go_enter Try.func3, Try.ntmps3
    go_wp2_with (first | (go_at_call 5; refine (dist_calls _ _ _ h0 h1 h2 h3).mono ?_; rintro e w' ⟨rfl, rfl⟩) | (go_at_call 6; refine (mag_calls _ _ (by omega) (by omega)).mono ?_; rintro e w' ⟨rfl, rfl⟩))
    go_ret
    exact ⟨rfl, rfl⟩
theorem walk_same (x y : Int) (w : World) (h0 : -9223372036854775808 ≤ x) (h1 : x ≤ 9223372036854775807) (h2 : -9223372036854775808 ≤ y) (h3 : y ≤ 9223372036854775807)
    (h : (x < 0 ∧ y < 0) ∨ (0 ≤ x ∧ 0 ≤ y)) :
    Calls Try.prog 3 #[.int .i64 x, .int .i64 y] w fun e w' => e = .returned (.bool true) ∧ w' = w := by
  obtain ⟨bx, bx'⟩ := magL_bd x h0 h1
  obtain ⟨bz, bz'⟩ := magL_bd y h2 h3
  have hq : (distL (magL x) (magL y) == distL x y) = true := by rw [same_side x y (by omega)]; exact beq_self_eq_true _
  rcases h with ⟨a, b⟩ | ⟨a, b⟩
  · have e1 : decide (x < 0) = true := by simp [a]
    have e2 : decide (y < 0) = true := by simp [b]
    go_enter Try.func3, Try.ntmps3
    go_wp2_with (first | (go_at_call 5; refine (dist_calls _ _ _ h0 h1 h2 h3).mono ?_; rintro e w' ⟨rfl, rfl⟩) | (go_at_call 6; refine (mag_calls _ _ (by omega) (by omega)).mono ?_; rintro e w' ⟨rfl, rfl⟩) | (go_at_call 7; refine (adiff_calls _ _ _ (by omega) (by omega) (by omega) (by omega)).mono ?_; rintro e w' ⟨rfl, rfl⟩))
    go_ret
    exact ⟨rfl, rfl⟩
  · have e1 : decide (x < 0) = false := by simp [a]
    have e2 : decide (y < 0) = false := by simp [b]
    go_enter Try.func3, Try.ntmps3
    go_wp2_with (first | (go_at_call 5; refine (dist_calls _ _ _ h0 h1 h2 h3).mono ?_; rintro e w' ⟨rfl, rfl⟩) | (go_at_call 6; refine (mag_calls _ _ (by omega) (by omega)).mono ?_; rintro e w' ⟨rfl, rfl⟩) | (go_at_call 7; refine (adiff_calls _ _ _ (by omega) (by omega) (by omega) (by omega)).mono ?_; rintro e w' ⟨rfl, rfl⟩))
    go_ret
    exact ⟨rfl, rfl⟩

/-! ### STEP 1: THE WALK: the Go text returns true. 'Grown w w'': the world has at most new blocks (Derived/RowKit3.lean). Part the cases AHEAD of 'go_enter' where a test parts the walk; take each callee by a contract of your own. -/
theorem walk (a0 : Int) (a1 : Int) (w0 : (Lit.int .i64 a0).wf = true) (w1 : (Lit.int .i64 a1).wf = true) (w : World) :
    Calls Try.prog 3 #[.int .i64 a0, .int .i64 a1] w fun e w' => e = .returned (.bool true) ∧ Grown w w' := by
  obtain ⟨h0, h1⟩ := bounds_i64 w0
  obtain ⟨h2, h3⟩ := bounds_i64 w1
  refine Calls.mono (R := fun e w' => e = .returned (.bool true) ∧ w' = w) ?_ (by rintro e w' ⟨rfl, rfl⟩; exact ⟨rfl, Grown.refl _⟩)
  by_cases h : (a0 < 0 ∧ 0 ≤ a1) ∨ (0 ≤ a0 ∧ a1 < 0)
  · exact walk_other a0 a1 w h0 h1 h2 h3 h
  · exact walk_same a0 a1 w h0 h1 h2 h3 (by omega)

/-! ### THE ROW's STEP: WRITTEN OUT: LEAVE IT -/
set_option maxRecDepth 100000 in
theorem lifted (os : Os) (started : os.Started) (H : Type) (enc : TypeId × Value → H) :
    ReturnsInHanded {} Try.checked os 3 .any (Rows.fnMagnitudeDistanceSpec.pre6 enc Try.prog Try.f3 Rows.fnMagnitudeDistanceRow.domain false) (Rows.fnMagnitudeDistanceSpec.post enc Try.prog Try.f3 false true false false) := by
  refine returnsInHanded_of_change (C := Try.checked) own started (by kernel_rfl) Try.func3
    (ChangeSpec.witness6 (enc := enc) (C := Try.checked) false ⟨#[], #[.int .i64 0, .int .i64 0], []⟩ 8 (by kernel_rfl) (by kernel_rfl) (by kernel_rfl) (by kernel_rfl)) ?_
  intro W base args ds gs before hval0 hW hcnd _
  have hval : ∀ (j : Nat) t v, Try.f3.params[j]? = some t → args[j]? = some v → Value.okWide Try.prog W .any base t v := hval0
  have hW' := hW
  obtain ⟨p, q, hA0, hV, rfl, hfz, hnd⟩ := hW
  have hA : DataW.TrodAll enc Try.prog W 0 (fun _ => true) true Try.f3.params.toList args.toList ds p := hA0
  rw [Try.params3] at hA hval
  obtain ⟨v0, vs0, d0, ds0, p0, q0, hargs, rfl, rfl, h0, r0⟩ := trodAll_cons hA
  obtain ⟨v1, vs1, d1, ds1, p1, q1, rfl, rfl, rfl, h1, r1⟩ := trodAll_cons r0
  obtain ⟨rfl, rfl, rfl⟩ := trodAll_nil r1
  obtain rfl : args = #[v0, v1] := by cases args; simp_all
  obtain ⟨rfl, rfl⟩ := trodVars_none hV
  obtain ⟨a0, rfl, rfl, rfl, w0⟩ := open_int Try.underlying2 (hval 0 2 v0 rfl rfl) h0
  obtain ⟨a1, rfl, rfl, rfl, w1⟩ := open_int Try.underlying2 (hval 1 2 v1 rfl rfl) h1
  clear hA0 hval0
  simp only [List.append_nil] at hW'
  refine (walk a0 a1 w0 w1 W).mono fun e W' ⟨he, hg⟩ => ?_
  subst he
  exact ⟨_, rfl, post_of_same (pa := []) (pv := []) hW' (fun _ _ _ => (trodAll_cons_mk (shut_bool Try.underlying4 _) trodAll_mk0)) (fun sp _ => (trodAll_cons_mk (shut_int Try.underlying2 w0) (trodAll_cons_mk (shut_int Try.underlying2 w1) trodAll_mk0))) (fun _ _ => rfl) rfl
    (hg.frame _) hg.2.1 (ok_one (by kernel_rfl) rfl (okWide_bool_mk Try.underlying4 _))⟩

theorem over : Rows.fnMagnitudeDistanceRow.holds Try.pinned (OpenSpec.ofChange Rows.fnMagnitudeDistanceSpec) :=
  OpenClaim.holds_of_wide 3 Try.f3 rfl rfl rfl rfl rfl rfl rfl ⟨rfl, rfl, rfl, rfl, rfl⟩ rfl rfl rfl rfl rfl (by kernel_rfl) Try.func3 (by kernel_rfl)
    (of_decide_eq_true (by kernel_rfl)) (by unfold Func.isWrapper; first | (rw [if_pos (by decide +kernel)]; kernel_rfl) | (rw [if_neg (by decide +kernel)]; exact ⟨rfl, rfl⟩))
    (fun os started H enc _ => lifted os started H enc)

/-- ████ THE STATEMENT ████ -/
theorem proved : Rows.FnMagnitudeDistanceSaid :=
  over
end Go.Proofs.Qxb6617344a.fnMagnitudeDistance
