/-
  Proof of 'Rows.FnAndIsMeetAndAssociativeSaid' over the frame that proof-skeleton.mjs wrote for this function.
-/
import Derived.Test.Qxb6617218aRows
import Derived.WalkKit
import Derived.ProofKit
import Derived.OpenShut
import Derived.ShutString
import Derived.Handy
namespace Go.Proofs.Qxb6617218a.fnAndIsMeetAndAssociative
open Go.ChangeShapes Go.WideShapes Go.ChangeAt Go.RowKit
open Go.ChangeMaps (open_string shut_string)
set_option linter.unusedVariables false      -- a walk need not use every 'w<i>' (that an integer argument fits its kind)

theorem own : ownKnob Try.prog.godebug = none := by kernel_rfl

/-- What 'and' computes on the codes 0 (null), 1 (false), 2 (true). -/
def andL (a b : Int) : Int := if a = 1 ∨ b = 1 then 1 else if a = 0 ∨ b = 0 then 0 else 2

theorem and_calls (a b : Int) (w : World) :
    Calls Try.prog 9 #[.int .i8 a, .int .i8 b] w fun e w' => e = .returned (.int .i8 (andL a b)) ∧ w' = w := by
  by_cases h1 : a = 1
  · subst h1
    go_enter Try.func9, Try.ntmps9
    go_wp2
    go_ret
    exact ⟨by simp [andL], rfl⟩
  by_cases h2 : b = 1
  · subst h2
    have h1' : (a == 1) = false := by simp [h1]
    go_enter Try.func9, Try.ntmps9
    go_wp2
    go_ret
    exact ⟨by simp [andL], rfl⟩
  have h1' : (a == 1) = false := by simp [h1]
  have h2' : (b == 1) = false := by simp [h2]
  by_cases h3 : a = 0
  · subst h3
    go_enter Try.func9, Try.ntmps9
    go_wp2
    go_ret
    exact ⟨by simp [andL, h2], rfl⟩
  have h3' : (a == 0) = false := by simp [h3]
  by_cases h4 : b = 0
  · subst h4
    go_enter Try.func9, Try.ntmps9
    go_wp2
    go_ret
    exact ⟨by simp [andL, h1], rfl⟩
  have h4' : (b == 0) = false := by simp [h4]
  go_enter Try.func9, Try.ntmps9
  go_wp2
  go_ret
  exact ⟨by simp [andL, h1, h2, h3, h4], rfl⟩

/-- The rank in the order false < null < true. -/
def rankL (a : Int) : Int := if a = 1 then 0 else if a = 0 then 1 else 2
def leastL (a b : Int) : Int := if rankL b < rankL a then b else a

theorem rank_calls (a : Int) (w : World) :
    Calls Try.prog 27 #[.int .i8 a] w fun e w' => e = .returned (.int .i64 (rankL a)) ∧ w' = w := by
  by_cases h1 : a = 1
  · subst h1
    go_enter Try.func27, Try.ntmps27
    go_wp2
    go_ret
    exact ⟨by simp [rankL], rfl⟩
  have h1' : (a == 1) = false := by simp [h1]
  by_cases h3 : a = 0
  · subst h3
    go_enter Try.func27, Try.ntmps27
    go_wp2
    go_ret
    exact ⟨by simp [rankL], rfl⟩
  have h3' : (a == 0) = false := by simp [h3]
  go_enter Try.func27, Try.ntmps27
  go_wp2
  go_ret
  exact ⟨by simp [rankL, h1, h3], rfl⟩

theorem least_calls (a b : Int) (w : World) :
    Calls Try.prog 10 #[.int .i8 a, .int .i8 b] w fun e w' => e = .returned (.int .i8 (leastL a b)) ∧ w' = w := by
  by_cases h1 : rankL b < rankL a
  · go_enter Try.func10, Try.ntmps10
    go_wp2_with (go_at_call 27; refine (rank_calls _ _).mono ?_; rintro e w' ⟨rfl, rfl⟩)
    go_ret
    exact ⟨by simp [leastL, h1], rfl⟩
  · go_enter Try.func10, Try.ntmps10
    go_wp2_with (go_at_call 27; refine (rank_calls _ _).mono ?_; rintro e w' ⟨rfl, rfl⟩)
    go_ret
    exact ⟨by unfold leastL; rw [if_neg (by omega)]; rfl, rfl⟩

theorem walk_in (a b c : Int) (w : World) (ha : 0 ≤ a) (ha' : a ≤ 2) (hb : 0 ≤ b) (hb' : b ≤ 2) (hc : 0 ≤ c) (hc' : c ≤ 2)
    (e1 : (andL a b == andL b a) = true) (e2 : (andL (andL a b) c == andL a (andL b c)) = true)
    (e3 : (andL a b == leastL a b) = true) (e4 : (andL (andL a b) c == leastL (leastL a b) c) = true) :
    Calls Try.prog 3 #[.int .i8 a, .int .i8 b, .int .i8 c] w fun e w' => e = .returned (.bool true) ∧ w' = w := by
  go_enter Try.func3, Try.ntmps3
  go_wp2_with (first | (go_at_call 9; refine (and_calls _ _ _).mono ?_; rintro e w' ⟨rfl, rfl⟩) | (go_at_call 10; refine (least_calls _ _ _).mono ?_; rintro e w' ⟨rfl, rfl⟩))
  go_ret
  exact ⟨rfl, rfl⟩

theorem walk_out (a b c : Int) (w : World) (h : a < 0 ∨ 2 < a ∨ b < 0 ∨ 2 < b ∨ c < 0 ∨ 2 < c) :
    Calls Try.prog 3 #[.int .i8 a, .int .i8 b, .int .i8 c] w fun e w' => e = .returned (.bool true) ∧ w' = w := by
  by_cases h0 : a < 0
  · go_enter Try.func3, Try.ntmps3
    go_wp2
    go_ret
    exact ⟨rfl, rfl⟩
  by_cases h1 : 2 < a
  · go_enter Try.func3, Try.ntmps3
    go_wp2
    go_ret
    exact ⟨rfl, rfl⟩
  by_cases h2 : b < 0
  · go_enter Try.func3, Try.ntmps3
    go_wp2
    go_ret
    exact ⟨rfl, rfl⟩
  by_cases h3 : 2 < b
  · go_enter Try.func3, Try.ntmps3
    go_wp2
    go_ret
    exact ⟨rfl, rfl⟩
  by_cases h4 : c < 0
  · go_enter Try.func3, Try.ntmps3
    go_wp2
    go_ret
    exact ⟨rfl, rfl⟩
  have h5 : 2 < c := by omega
  go_enter Try.func3, Try.ntmps3
  go_wp2
  go_ret
  exact ⟨rfl, rfl⟩

/-- THE PLAIN LAW: on the three codes 'and' is the meet, commutative and associative. -/
theorem plain (a b c : Int) (ha : 0 ≤ a) (ha' : a ≤ 2) (hb : 0 ≤ b) (hb' : b ≤ 2) (hc : 0 ≤ c) (hc' : c ≤ 2) :
    (andL a b == andL b a) = true ∧ (andL (andL a b) c == andL a (andL b c)) = true ∧ (andL a b == leastL a b) = true ∧ (andL (andL a b) c == leastL (leastL a b) c) = true := by
  have c0 : a = 0 ∨ a = 1 ∨ a = 2 := by omega
  have c1 : b = 0 ∨ b = 1 ∨ b = 2 := by omega
  have c2 : c = 0 ∨ c = 1 ∨ c = 2 := by omega
  rcases c0 with rfl | rfl | rfl <;> rcases c1 with rfl | rfl | rfl <;> rcases c2 with rfl | rfl | rfl <;> decide


/-! ### STEP 1: THE WALK: the Go text returns true. 'Grown w w'': the world has at most new blocks (Derived/RowKit3.lean). Part the cases AHEAD of 'go_enter' where a test parts the walk; take each callee by a contract of your own. -/
theorem walk (a0 : Int) (a1 : Int) (a2 : Int) (w0 : (Lit.int .i8 a0).wf = true) (w1 : (Lit.int .i8 a1).wf = true) (w2 : (Lit.int .i8 a2).wf = true) (w : World) :
    Calls Try.prog 3 #[.int .i8 a0, .int .i8 a1, .int .i8 a2] w fun e w' => e = .returned (.bool true) ∧ Grown w w' := by
  refine Calls.mono (R := fun e w' => e = .returned (.bool true) ∧ w' = w) ?_ (by rintro e w' ⟨rfl, rfl⟩; exact ⟨rfl, Grown.refl _⟩)
  by_cases h : a0 < 0 ∨ 2 < a0 ∨ a1 < 0 ∨ 2 < a1 ∨ a2 < 0 ∨ 2 < a2
  · exact walk_out a0 a1 a2 w h
  obtain ⟨e1, e2, e3, e4⟩ := plain a0 a1 a2 (by omega) (by omega) (by omega) (by omega) (by omega) (by omega)
  exact walk_in a0 a1 a2 w (by omega) (by omega) (by omega) (by omega) (by omega) (by omega) e1 e2 e3 e4

/-! ### THE ROW's STEP: WRITTEN OUT: LEAVE IT -/
set_option maxRecDepth 100000 in
theorem lifted (os : Os) (started : os.Started) (H : Type) (enc : TypeId × Value → H) :
    ReturnsInHanded {} Try.checked os 3 .any (Rows.fnAndIsMeetAndAssociativeSpec.pre6 enc Try.prog Try.f3 Rows.fnAndIsMeetAndAssociativeRow.domain false) (Rows.fnAndIsMeetAndAssociativeSpec.post enc Try.prog Try.f3 false true false false) := by
  refine returnsInHanded_of_change (C := Try.checked) own started (by kernel_rfl) Try.func3
    (ChangeSpec.witness6 (enc := enc) (C := Try.checked) false ⟨#[], #[.int .i8 0, .int .i8 0, .int .i8 0], []⟩ 8 (by kernel_rfl) (by kernel_rfl) (by kernel_rfl) (by kernel_rfl)) ?_
  intro W base args ds gs before hval0 hW hcnd _
  have hval : ∀ (j : Nat) t v, Try.f3.params[j]? = some t → args[j]? = some v → Value.okWide Try.prog W .any base t v := hval0
  have hW' := hW
  obtain ⟨p, q, hA0, hV, rfl, hfz, hnd⟩ := hW
  have hA : DataW.TrodAll enc Try.prog W 0 (fun _ => true) true Try.f3.params.toList args.toList ds p := hA0
  rw [Try.params3] at hA hval
  obtain ⟨v0, vs0, d0, ds0, p0, q0, hargs, rfl, rfl, h0, r0⟩ := trodAll_cons hA
  obtain ⟨v1, vs1, d1, ds1, p1, q1, rfl, rfl, rfl, h1, r1⟩ := trodAll_cons r0
  obtain ⟨v2, vs2, d2, ds2, p2, q2, rfl, rfl, rfl, h2, r2⟩ := trodAll_cons r1
  obtain ⟨rfl, rfl, rfl⟩ := trodAll_nil r2
  obtain rfl : args = #[v0, v1, v2] := by cases args; simp_all
  obtain ⟨rfl, rfl⟩ := trodVars_none hV
  obtain ⟨a0, rfl, rfl, rfl, w0⟩ := open_int Try.underlying22 (hval 0 22 v0 rfl rfl) h0
  obtain ⟨a1, rfl, rfl, rfl, w1⟩ := open_int Try.underlying22 (hval 1 22 v1 rfl rfl) h1
  obtain ⟨a2, rfl, rfl, rfl, w2⟩ := open_int Try.underlying22 (hval 2 22 v2 rfl rfl) h2
  clear hA0 hval0
  simp only [List.append_nil] at hW'
  refine (walk a0 a1 a2 w0 w1 w2 W).mono fun e W' ⟨he, hg⟩ => ?_
  subst he
  exact ⟨_, rfl, post_of_same (pa := []) (pv := []) hW' (fun _ _ _ => (trodAll_cons_mk (shut_bool Try.underlying4 _) trodAll_mk0)) (fun sp _ => (trodAll_cons_mk (shut_int Try.underlying22 w0) (trodAll_cons_mk (shut_int Try.underlying22 w1) (trodAll_cons_mk (shut_int Try.underlying22 w2) trodAll_mk0)))) (fun _ _ => rfl) rfl
    (hg.frame _) hg.2.1 (ok_one (by kernel_rfl) rfl (okWide_bool_mk Try.underlying4 _))⟩

theorem over : Rows.fnAndIsMeetAndAssociativeRow.holds Try.pinned (OpenSpec.ofChange Rows.fnAndIsMeetAndAssociativeSpec) :=
  OpenClaim.holds_of_wide 3 Try.f3 rfl rfl rfl rfl rfl rfl rfl ⟨rfl, rfl, rfl, rfl, rfl⟩ rfl rfl rfl rfl rfl (by kernel_rfl) Try.func3 (by kernel_rfl)
    (of_decide_eq_true (by kernel_rfl)) (by unfold Func.isWrapper; first | (rw [if_pos (by decide +kernel)]; kernel_rfl) | (rw [if_neg (by decide +kernel)]; exact ⟨rfl, rfl⟩))
    (fun os started H enc _ => lifted os started H enc)

/-- ████ THE STATEMENT ████ -/
theorem proved : Rows.FnAndIsMeetAndAssociativeSaid :=
  over
end Go.Proofs.Qxb6617218a.fnAndIsMeetAndAssociative
