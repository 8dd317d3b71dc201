/-
  Proof of 'Rows.FnAndNullIsUnknownSaid' over the frame that proof-skeleton.mjs wrote for this function.
-/
import Derived.Test.Qxb6617218aRows
import Derived.WalkKit
import Derived.ProofKit
import Derived.OpenShut
import Derived.ShutString
import Derived.Handy
namespace Go.Proofs.Qxb6617218a.fnAndNullIsUnknown
open Go.ChangeShapes Go.WideShapes Go.ChangeAt Go.RowKit
open Go.ChangeMaps (open_string shut_string)
set_option linter.unusedVariables false      -- a walk need not use every 'w<i>' (that an integer argument fits its kind)

theorem own : ownKnob Try.prog.godebug = none := by kernel_rfl

/-- What 'and' computes on the codes 0 (null), 1 (false), 2 (true). -/
def andL (a b : Int) : Int := if a = 1 ∨ b = 1 then 1 else if a = 0 ∨ b = 0 then 0 else 2

theorem and_calls (a b : Int) (w : World) :
    Calls Try.prog 9 #[.int .i8 a, .int .i8 b] w fun e w' => e = .returned (.int .i8 (andL a b)) ∧ w' = w := by
  by_cases h1 : a = 1
  · subst h1
    go_enter Try.func9, Try.ntmps9
    go_wp2
    go_ret
    exact ⟨by simp [andL], rfl⟩
  by_cases h2 : b = 1
  · subst h2
    have h1' : (a == 1) = false := by simp [h1]
    go_enter Try.func9, Try.ntmps9
    go_wp2
    go_ret
    exact ⟨by simp [andL], rfl⟩
  have h1' : (a == 1) = false := by simp [h1]
  have h2' : (b == 1) = false := by simp [h2]
  by_cases h3 : a = 0
  · subst h3
    go_enter Try.func9, Try.ntmps9
    go_wp2
    go_ret
    exact ⟨by simp [andL, h2], rfl⟩
  have h3' : (a == 0) = false := by simp [h3]
  by_cases h4 : b = 0
  · subst h4
    go_enter Try.func9, Try.ntmps9
    go_wp2
    go_ret
    exact ⟨by simp [andL, h1], rfl⟩
  have h4' : (b == 0) = false := by simp [h4]
  go_enter Try.func9, Try.ntmps9
  go_wp2
  go_ret
  exact ⟨by simp [andL, h1, h2, h3, h4], rfl⟩
attribute [local go_sem] andL
theorem walk_out (a0 : Int) (a1 : Int) (w : World) (h : a0 < 0 ∨ 2 < a0 ∨ a1 < 0 ∨ 2 < a1) :
    Calls Try.prog 4 #[.int .i8 a0, .int .i8 a1] w fun e w' => e = .returned (.bool true) ∧ w' = w := by
  by_cases h1 : a0 < 0
  · go_enter Try.func4, Try.ntmps4
    go_wp2
    go_ret
    exact ⟨rfl, rfl⟩
  by_cases h2 : 2 < a0
  · go_enter Try.func4, Try.ntmps4
    go_wp2
    go_ret
    exact ⟨rfl, rfl⟩
  by_cases h3 : a1 < 0
  · go_enter Try.func4, Try.ntmps4
    go_wp2
    go_ret
    exact ⟨rfl, rfl⟩
  have h4 : 2 < a1 := by omega
  go_enter Try.func4, Try.ntmps4
  go_wp2
  go_ret
  exact ⟨rfl, rfl⟩
theorem walk_00 (w : World) :
    Calls Try.prog 4 #[.int .i8 0, .int .i8 0] w fun e w' => e = .returned (.bool true) ∧ w' = w := by
  go_enter Try.func4, Try.ntmps4
  go_wp2_with (go_at_call 9; refine (and_calls _ _ _).mono ?_; rintro e w' ⟨rfl, rfl⟩; simp only [andL])
  repeat ((first | rw [rounds_succ] | refine wp_loop_rounds 3 ?_); go_wp2_with (go_at_call 9; refine (and_calls _ _ _).mono ?_; rintro e w' ⟨rfl, rfl⟩; simp only [andL]))
  go_ret
  exact ⟨rfl, rfl⟩
theorem walk_01 (w : World) :
    Calls Try.prog 4 #[.int .i8 0, .int .i8 1] w fun e w' => e = .returned (.bool true) ∧ w' = w := by
  go_enter Try.func4, Try.ntmps4
  go_wp2_with (go_at_call 9; refine (and_calls _ _ _).mono ?_; rintro e w' ⟨rfl, rfl⟩; simp only [andL])
  repeat ((first | rw [rounds_succ] | refine wp_loop_rounds 3 ?_); go_wp2_with (go_at_call 9; refine (and_calls _ _ _).mono ?_; rintro e w' ⟨rfl, rfl⟩; simp only [andL]))
  go_ret
  exact ⟨rfl, rfl⟩
theorem walk_02 (w : World) :
    Calls Try.prog 4 #[.int .i8 0, .int .i8 2] w fun e w' => e = .returned (.bool true) ∧ w' = w := by
  go_enter Try.func4, Try.ntmps4
  go_wp2_with (go_at_call 9; refine (and_calls _ _ _).mono ?_; rintro e w' ⟨rfl, rfl⟩; simp only [andL])
  repeat ((first | rw [rounds_succ] | refine wp_loop_rounds 3 ?_); go_wp2_with (go_at_call 9; refine (and_calls _ _ _).mono ?_; rintro e w' ⟨rfl, rfl⟩; simp only [andL]))
  go_ret
  exact ⟨rfl, rfl⟩
theorem walk_10 (w : World) :
    Calls Try.prog 4 #[.int .i8 1, .int .i8 0] w fun e w' => e = .returned (.bool true) ∧ w' = w := by
  go_enter Try.func4, Try.ntmps4
  go_wp2_with (go_at_call 9; refine (and_calls _ _ _).mono ?_; rintro e w' ⟨rfl, rfl⟩; simp only [andL])
  repeat ((first | rw [rounds_succ] | refine wp_loop_rounds 3 ?_); go_wp2_with (go_at_call 9; refine (and_calls _ _ _).mono ?_; rintro e w' ⟨rfl, rfl⟩; simp only [andL]))
  go_ret
  exact ⟨rfl, rfl⟩
theorem walk_11 (w : World) :
    Calls Try.prog 4 #[.int .i8 1, .int .i8 1] w fun e w' => e = .returned (.bool true) ∧ w' = w := by
  go_enter Try.func4, Try.ntmps4
  go_wp2_with (go_at_call 9; refine (and_calls _ _ _).mono ?_; rintro e w' ⟨rfl, rfl⟩; simp only [andL])
  repeat ((first | rw [rounds_succ] | refine wp_loop_rounds 3 ?_); go_wp2_with (go_at_call 9; refine (and_calls _ _ _).mono ?_; rintro e w' ⟨rfl, rfl⟩; simp only [andL]))
  go_ret
  exact ⟨rfl, rfl⟩
theorem walk_12 (w : World) :
    Calls Try.prog 4 #[.int .i8 1, .int .i8 2] w fun e w' => e = .returned (.bool true) ∧ w' = w := by
  go_enter Try.func4, Try.ntmps4
  go_wp2_with (go_at_call 9; refine (and_calls _ _ _).mono ?_; rintro e w' ⟨rfl, rfl⟩; simp only [andL])
  repeat ((first | rw [rounds_succ] | refine wp_loop_rounds 3 ?_); go_wp2_with (go_at_call 9; refine (and_calls _ _ _).mono ?_; rintro e w' ⟨rfl, rfl⟩; simp only [andL]))
  go_ret
  exact ⟨rfl, rfl⟩
theorem walk_20 (w : World) :
    Calls Try.prog 4 #[.int .i8 2, .int .i8 0] w fun e w' => e = .returned (.bool true) ∧ w' = w := by
  go_enter Try.func4, Try.ntmps4
  go_wp2_with (go_at_call 9; refine (and_calls _ _ _).mono ?_; rintro e w' ⟨rfl, rfl⟩; simp only [andL])
  repeat ((first | rw [rounds_succ] | refine wp_loop_rounds 3 ?_); go_wp2_with (go_at_call 9; refine (and_calls _ _ _).mono ?_; rintro e w' ⟨rfl, rfl⟩; simp only [andL]))
  go_ret
  exact ⟨rfl, rfl⟩
theorem walk_21 (w : World) :
    Calls Try.prog 4 #[.int .i8 2, .int .i8 1] w fun e w' => e = .returned (.bool true) ∧ w' = w := by
  go_enter Try.func4, Try.ntmps4
  go_wp2_with (go_at_call 9; refine (and_calls _ _ _).mono ?_; rintro e w' ⟨rfl, rfl⟩; simp only [andL])
  repeat ((first | rw [rounds_succ] | refine wp_loop_rounds 3 ?_); go_wp2_with (go_at_call 9; refine (and_calls _ _ _).mono ?_; rintro e w' ⟨rfl, rfl⟩; simp only [andL]))
  go_ret
  exact ⟨rfl, rfl⟩
theorem walk_22 (w : World) :
    Calls Try.prog 4 #[.int .i8 2, .int .i8 2] w fun e w' => e = .returned (.bool true) ∧ w' = w := by
  go_enter Try.func4, Try.ntmps4
  go_wp2_with (go_at_call 9; refine (and_calls _ _ _).mono ?_; rintro e w' ⟨rfl, rfl⟩; simp only [andL])
  repeat ((first | rw [rounds_succ] | refine wp_loop_rounds 3 ?_); go_wp2_with (go_at_call 9; refine (and_calls _ _ _).mono ?_; rintro e w' ⟨rfl, rfl⟩; simp only [andL]))
  go_ret
  exact ⟨rfl, rfl⟩

/-! ### STEP 1: THE WALK: the Go text returns true. 'Grown w w'': the world has at most new blocks (Derived/RowKit3.lean). Part the cases AHEAD of 'go_enter' where a test parts the walk; take each callee by a contract of your own. -/
theorem walk (a0 : Int) (a1 : Int) (w0 : (Lit.int .i8 a0).wf = true) (w1 : (Lit.int .i8 a1).wf = true) (w : World) :
    Calls Try.prog 4 #[.int .i8 a0, .int .i8 a1] w fun e w' => e = .returned (.bool true) ∧ Grown w w' := by
  refine Calls.mono (R := fun e w' => e = .returned (.bool true) ∧ w' = w) ?_ (by rintro e w' ⟨rfl, rfl⟩; exact ⟨rfl, Grown.refl _⟩)
  by_cases h : a0 < 0 ∨ 2 < a0 ∨ a1 < 0 ∨ 2 < a1
  · exact walk_out a0 a1 w h
  have c0 : a0 = 0 ∨ a0 = 1 ∨ a0 = 2 := by omega
  have c1 : a1 = 0 ∨ a1 = 1 ∨ a1 = 2 := by omega
  clear h w0 w1
  rcases c0 with rfl | rfl | rfl <;> rcases c1 with rfl | rfl | rfl
  · exact walk_00 w
  · exact walk_01 w
  · exact walk_02 w
  · exact walk_10 w
  · exact walk_11 w
  · exact walk_12 w
  · exact walk_20 w
  · exact walk_21 w
  · exact walk_22 w

/-! ### THE ROW's STEP: WRITTEN OUT: LEAVE IT -/
set_option maxRecDepth 100000 in
theorem lifted (os : Os) (started : os.Started) (H : Type) (enc : TypeId × Value → H) :
    ReturnsInHanded {} Try.checked os 4 .any (Rows.fnAndNullIsUnknownSpec.pre6 enc Try.prog Try.f4 Rows.fnAndNullIsUnknownRow.domain false) (Rows.fnAndNullIsUnknownSpec.post enc Try.prog Try.f4 false true false false) := by
  refine returnsInHanded_of_change (C := Try.checked) own started (by kernel_rfl) Try.func4
    (ChangeSpec.witness6 (enc := enc) (C := Try.checked) false ⟨#[], #[.int .i8 0, .int .i8 0], []⟩ 8 (by kernel_rfl) (by kernel_rfl) (by kernel_rfl) (by kernel_rfl)) ?_
  intro W base args ds gs before hval0 hW hcnd _
  have hval : ∀ (j : Nat) t v, Try.f4.params[j]? = some t → args[j]? = some v → Value.okWide Try.prog W .any base t v := hval0
  have hW' := hW
  obtain ⟨p, q, hA0, hV, rfl, hfz, hnd⟩ := hW
  have hA : DataW.TrodAll enc Try.prog W 0 (fun _ => true) true Try.f4.params.toList args.toList ds p := hA0
  rw [Try.params4] at hA hval
  obtain ⟨v0, vs0, d0, ds0, p0, q0, hargs, rfl, rfl, h0, r0⟩ := trodAll_cons hA
  obtain ⟨v1, vs1, d1, ds1, p1, q1, rfl, rfl, rfl, h1, r1⟩ := trodAll_cons r0
  obtain ⟨rfl, rfl, rfl⟩ := trodAll_nil r1
  obtain rfl : args = #[v0, v1] := by cases args; simp_all
  obtain ⟨rfl, rfl⟩ := trodVars_none hV
  obtain ⟨a0, rfl, rfl, rfl, w0⟩ := open_int Try.underlying22 (hval 0 22 v0 rfl rfl) h0
  obtain ⟨a1, rfl, rfl, rfl, w1⟩ := open_int Try.underlying22 (hval 1 22 v1 rfl rfl) h1
  clear hA0 hval0
  simp only [List.append_nil] at hW'
  refine (walk a0 a1 w0 w1 W).mono fun e W' ⟨he, hg⟩ => ?_
  subst he
  exact ⟨_, rfl, post_of_same (pa := []) (pv := []) hW' (fun _ _ _ => (trodAll_cons_mk (shut_bool Try.underlying4 _) trodAll_mk0)) (fun sp _ => (trodAll_cons_mk (shut_int Try.underlying22 w0) (trodAll_cons_mk (shut_int Try.underlying22 w1) trodAll_mk0))) (fun _ _ => rfl) rfl
    (hg.frame _) hg.2.1 (ok_one (by kernel_rfl) rfl (okWide_bool_mk Try.underlying4 _))⟩

theorem over : Rows.fnAndNullIsUnknownRow.holds Try.pinned (OpenSpec.ofChange Rows.fnAndNullIsUnknownSpec) :=
  OpenClaim.holds_of_wide 4 Try.f4 rfl rfl rfl rfl rfl rfl rfl ⟨rfl, rfl, rfl, rfl, rfl⟩ rfl rfl rfl rfl rfl (by kernel_rfl) Try.func4 (by kernel_rfl)
    (of_decide_eq_true (by kernel_rfl)) (by unfold Func.isWrapper; first | (rw [if_pos (by decide +kernel)]; kernel_rfl) | (rw [if_neg (by decide +kernel)]; exact ⟨rfl, rfl⟩))
    (fun os started H enc _ => lifted os started H enc)

/-- ████ THE STATEMENT ████ -/
theorem proved : Rows.FnAndNullIsUnknownSaid :=
  over
end Go.Proofs.Qxb6617218a.fnAndNullIsUnknown
