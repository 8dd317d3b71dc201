/-
  Proof of 'Rows.FnMagnitudeProductSaid' over the frame that proof-skeleton.mjs wrote for this function.
-/
import Derived.Test.Qxb6617344aRows
import Derived.WalkKit
import Derived.ProofKit
import Derived.OpenShut
import Derived.ShutString
import Derived.Handy
namespace Go.Proofs.Qxb6617344a.fnMagnitudeProduct
open Go.ChangeShapes Go.WideShapes Go.ChangeAt Go.RowKit
open Go.ChangeMaps (open_string shut_string)
set_option linter.unusedVariables false      -- a walk need not use every 'w<i>' (that an integer argument fits its kind)

theorem own : ownKnob Try.prog.godebug = none := by kernel_rfl


/-! ### The plain numbers -/
def magL (x : Int) : Int := if x < 0 then -x else x
def distL (x y : Int) : Int := if y ≤ x then x - y else y - x
theorem ret_int {k : IntKind} {a b : Int} (h : a = b) : Ending.returned (.int k a) = .returned (.int k b) := by rw [h]
theorem mag_neg (x : Int) (h0 : -9223372036854775808 ≤ x) (hx : x < 0) : IntKind.u64.wrap (wrap64 (-x)) = magL x := by
  unfold magL; rw [if_pos hx]
  simp only [wrap64, IntKind.wrap_u64]; omega
theorem mag_pos (x : Int) (hx : 0 ≤ x) : x = magL x := by
  unfold magL; rw [if_neg (by omega)]
theorem magL_bd (x : Int) (h0 : -9223372036854775808 ≤ x) (h1 : x ≤ 9223372036854775807) : 0 ≤ magL x ∧ magL x ≤ 9223372036854775808 := by
  unfold magL; split <;> omega

/-! ### The walks -/
theorem mag_calls (x : Int) (w : World) (h0 : -9223372036854775808 ≤ x) (h1 : x ≤ 9223372036854775807) :
    Calls Try.prog 6 #[.int .i64 x] w fun e w' => e = .returned (.int .u64 (magL x)) ∧ w' = w := by
  by_cases hx : x < 0
  · go_enter Try.func6, Try.ntmps6
    go_wp2
    go_ret
    exact ⟨ret_int (mag_neg x h0 hx), rfl⟩
  · go_enter Try.func6, Try.ntmps6
    go_wp2
    go_ret
    exact ⟨ret_int (mag_pos x (by omega)), rfl⟩
theorem quo_bd (z x : Int) (hx : x ≠ 0) (hx1 : x ≠ -1) (h4 : -9223372036854775808 ≤ z) (h5 : z ≤ 9223372036854775807) :
    -9223372036854775808 ≤ z.tdiv x ∧ z.tdiv x ≤ 9223372036854775807 := by
  by_cases h1 : x = 1
  · subst h1; simp; omega
  · have h := Int.natAbs_tdiv z x
    have h2 : z.natAbs / x.natAbs ≤ z.natAbs / 2 := Nat.div_le_div_left (by omega) (by omega)
    have h2' : (z.tdiv x).natAbs ≤ z.natAbs / 2 := by rw [h]; exact h2
    generalize z.tdiv x = d at *
    omega
theorem exact_mul (x y z : Int) (hx : x ≠ 0) (hx1 : x ≠ -1) (h0 : -9223372036854775808 ≤ x) (h1 : x ≤ 9223372036854775807)
    (h4 : -9223372036854775808 ≤ z) (h5 : z ≤ 9223372036854775807)
    (hz : wrap64 (x * y) = z) (hq : wrap64 (z.tdiv x) = y) : z = x * y := by
  obtain ⟨b1, b2⟩ := quo_bd z x hx hx1 h4 h5
  have hd : z.tdiv x = y := by rw [← hq]; simp only [wrap64]; omega
  have hm := Int.mul_tdiv_add_tmod z x
  rw [hd] at hm
  have hr : (z.tmod x).natAbs < x.natAbs := by
    rw [Int.natAbs_tmod]; exact Nat.mod_lt _ (by omega)
  generalize z.tmod x = r at *
  generalize x * y = t at *
  simp only [wrap64] at hz
  omega
theorem wrap64_bd (n : Int) : -9223372036854775808 ≤ wrap64 n ∧ wrap64 n ≤ 9223372036854775807 := by
  simp only [wrap64]; omega

theorem magL_mul (x y : Int) : magL x * magL y = magL (x * y) := by
  have key : ∀ t : Int, magL t = t.natAbs := fun t => by unfold magL; split <;> omega
  rw [key, key, key, Int.natAbs_mul]; push_cast; rfl
theorem prod_wrap (x y z : Int) (h4 : -9223372036854775808 ≤ z) (h5 : z ≤ 9223372036854775807) (hz : z = x * y) :
    IntKind.u64.wrap (magL x * magL y) = magL z := by
  rw [magL_mul, ← hz, IntKind.wrap_u64]
  unfold magL; split <;> omega
theorem want_other (x y z : Int) (h4 : -9223372036854775808 ≤ z) (h5 : z ≤ 9223372036854775807) (hz : z = x * y) (hs : z ≤ 0) (a b : Int)
    (ha : a = x ∨ a = IntKind.u64.wrap x) (hb : b = y ∨ b = IntKind.u64.wrap y) :
    magL z = IntKind.u64.wrap (-IntKind.u64.wrap (a * b)) := by
  have e : IntKind.u64.wrap (a * b) = z % 18446744073709551616 := by
    rw [hz]
    rcases ha with rfl | rfl <;> rcases hb with rfl | rfl <;> simp only [IntKind.wrap_u64, Int.mul_emod, Int.emod_emod]
  rw [e, IntKind.wrap_u64]
  unfold magL; split <;> omega
theorem want_same (x y z : Int) (h4 : -9223372036854775808 ≤ z) (h5 : z ≤ 9223372036854775807) (hz : z = x * y) (hs : 0 ≤ z) (a b : Int)
    (ha : a = x ∨ a = IntKind.u64.wrap x) (hb : b = y ∨ b = IntKind.u64.wrap y) :
    magL z = IntKind.u64.wrap (a * b) := by
  have e : IntKind.u64.wrap (a * b) = z % 18446744073709551616 := by
    rw [hz]
    rcases ha with rfl | rfl <;> rcases hb with rfl | rfl <;> simp only [IntKind.wrap_u64, Int.mul_emod, Int.emod_emod]
  rw [e]
  unfold magL; split <;> omega

theorem walk_a (w : World) :
    Calls Try.prog 4 #[.int .i64 (-1), .int .i64 (-9223372036854775808)] w fun e w' => e = .returned (.bool true) ∧ w' = w := by
  go_enter Try.func4, Try.ntmps4
  go_wp2
  go_ret
  exact ⟨rfl, rfl⟩
theorem walk_b (x y : Int) (w : World) (h0 : -9223372036854775808 ≤ x) (h1 : x ≤ 9223372036854775807) (h2 : -9223372036854775808 ≤ y) (h3 : y ≤ 9223372036854775807)
    (ha : (x == -1) = false) (hx : (x != 0) = true) (hq : (wrap64 ((wrap64 (x * y)).tdiv x) != y) = true) :
    Calls Try.prog 4 #[.int .i64 x, .int .i64 y] w fun e w' => e = .returned (.bool true) ∧ w' = w := by
  have hx' : ¬ x = 0 := by simpa using hx
  go_enter Try.func4, Try.ntmps4
  go_wp2_with fail
  go_ret
  exact ⟨rfl, rfl⟩
theorem ret_bool {a : Bool} (h : a = true) : Ending.returned (.bool a) = .returned (.bool true) := by rw [h]
theorem sign_other (x y : Int) (h : (x < 0 ∧ 0 ≤ y) ∨ (0 ≤ x ∧ y < 0)) : x * y ≤ 0 := by
  rcases h with ⟨a, b⟩ | ⟨a, b⟩
  · exact Int.mul_nonpos_of_nonpos_of_nonneg (by omega) b
  · exact Int.mul_nonpos_of_nonneg_of_nonpos a (by omega)
theorem sign_same (x y : Int) (h : (x < 0 ∧ y < 0) ∨ (0 ≤ x ∧ 0 ≤ y)) : 0 ≤ x * y := by
  rcases h with ⟨a, b⟩ | ⟨a, b⟩
  · exact Int.mul_nonneg_of_nonpos_of_nonpos (by omega) (by omega)
  · exact Int.mul_nonneg a b
theorem walk_c (x y z : Int) (w : World) (h0 : -9223372036854775808 ≤ x) (h1 : x ≤ 9223372036854775807) (h2 : -9223372036854775808 ≤ y) (h3 : y ≤ 9223372036854775807)
    (h4 : -9223372036854775808 ≤ z) (h5 : z ≤ 9223372036854775807) (hz : wrap64 (x * y) = z) (hz' : z = x * y)
    (hg : ((x == -1) = false ∧ (x != 0) = true ∧ ¬ x = 0 ∧ (wrap64 (z.tdiv x) != y) = false ∧ (z.tdiv x != y) = false) ∨ ((x == -1) = true ∧ (y == -9223372036854775808) = false ∧ (x != 0) = true ∧ ¬ x = 0 ∧ (wrap64 (z.tdiv x) != y) = false) ∨ ((x == -1) = false ∧ (x != 0) = false)) :
    Calls Try.prog 4 #[.int .i64 x, .int .i64 y] w fun e w' => e = .returned (.bool true) ∧ w' = w := by
  have hp := prod_wrap x y z h4 h5 hz'
  have HZ : Hid (z = x * y) := hz'
  clear hz'
  have hs : ((x < 0 ∧ 0 ≤ y) ∨ (0 ≤ x ∧ y < 0)) ∨ ((x < 0 ∧ y < 0) ∨ (0 ≤ x ∧ 0 ≤ y)) := by omega
  rcases hs with (⟨a, b⟩ | ⟨a, b⟩) | (⟨a, b⟩ | ⟨a, b⟩)
  · have e1 : decide (x < 0) = true := by simp [a]
    have e2 : decide (y < 0) = false := by simp [b]
    rcases hg with ⟨g1, g2, g3, g4, g5⟩ | ⟨g1, g2, g3, g4, g5⟩ | ⟨g1, g2⟩
    all_goals first | (exfalso; simp at g1 g2; omega) | skip
    all_goals
      go_enter Try.func4, Try.ntmps4
      go_wp2_with (go_at_call 6; refine (mag_calls _ _ (by omega) (by omega)).mono ?_; rintro e w' ⟨rfl, rfl⟩)
      go_ret
      first | exact ⟨rfl, rfl⟩ | exact ⟨ret_bool (beq_iff_eq.2 (want_other x y z h4 h5 HZ.out (by rw [HZ.out]; exact sign_other x y (.inl ⟨a, b⟩)) _ _ (.inr rfl) (.inl rfl))), rfl⟩
  · have e1 : decide (x < 0) = false := by simp [a]
    have e2 : decide (y < 0) = true := by simp [b]
    rcases hg with ⟨g1, g2, g3, g4, g5⟩ | ⟨g1, g2, g3, g4, g5⟩ | ⟨g1, g2⟩
    all_goals first | (exfalso; simp at g1 g2; omega) | skip
    all_goals
      go_enter Try.func4, Try.ntmps4
      go_wp2_with (go_at_call 6; refine (mag_calls _ _ (by omega) (by omega)).mono ?_; rintro e w' ⟨rfl, rfl⟩)
      go_ret
      first | exact ⟨rfl, rfl⟩ | exact ⟨ret_bool (beq_iff_eq.2 (want_other x y z h4 h5 HZ.out (by rw [HZ.out]; exact sign_other x y (.inr ⟨a, b⟩)) _ _ (.inl rfl) (.inr rfl))), rfl⟩
  · have e1 : decide (x < 0) = true := by simp [a]
    have e2 : decide (y < 0) = true := by simp [b]
    rcases hg with ⟨g1, g2, g3, g4, g5⟩ | ⟨g1, g2, g3, g4, g5⟩ | ⟨g1, g2⟩
    all_goals first | (exfalso; simp at g1 g2; omega) | skip
    all_goals
      go_enter Try.func4, Try.ntmps4
      go_wp2_with (go_at_call 6; refine (mag_calls _ _ (by omega) (by omega)).mono ?_; rintro e w' ⟨rfl, rfl⟩)
      go_ret
      first | exact ⟨rfl, rfl⟩ | exact ⟨ret_bool (beq_iff_eq.2 (want_same x y z h4 h5 HZ.out (by rw [HZ.out]; exact sign_same x y (.inl ⟨a, b⟩)) _ _ (.inr rfl) (.inr rfl))), rfl⟩
  · have e1 : decide (x < 0) = false := by simp [a]
    have e2 : decide (y < 0) = false := by simp [b]
    rcases hg with ⟨g1, g2, g3, g4, g5⟩ | ⟨g1, g2, g3, g4, g5⟩ | ⟨g1, g2⟩
    all_goals first | (exfalso; simp at g1 g2; omega) | skip
    all_goals
      go_enter Try.func4, Try.ntmps4
      go_wp2_with (go_at_call 6; refine (mag_calls _ _ (by omega) (by omega)).mono ?_; rintro e w' ⟨rfl, rfl⟩)
      go_ret
      first | exact ⟨rfl, rfl⟩ | exact ⟨ret_bool (beq_iff_eq.2 (want_same x y z h4 h5 HZ.out (by rw [HZ.out]; exact sign_same x y (.inr ⟨a, b⟩)) _ _ (.inl rfl) (.inl rfl))), rfl⟩
theorem walk_all (x y : Int) (w : World) (h0 : -9223372036854775808 ≤ x) (h1 : x ≤ 9223372036854775807) (h2 : -9223372036854775808 ≤ y) (h3 : y ≤ 9223372036854775807) :
    Calls Try.prog 4 #[.int .i64 x, .int .i64 y] w fun e w' => e = .returned (.bool true) ∧ w' = w := by
  obtain ⟨h4, h5⟩ := wrap64_bd (x * y)
  by_cases hm : x = -1
  · by_cases hy : y = -9223372036854775808
    · subst hm; rw [hy]; exact walk_a w
    · have e : x * y = -y := by rw [hm]; omega
      have hz : wrap64 (x * y) = x * y := by rw [e]; simp only [wrap64]; omega
      refine walk_c x y _ w h0 h1 h2 h3 h4 h5 rfl hz (.inr (.inl ⟨by simp [hm], by simp [hy], by simp [hm], by omega, ?_⟩))
      rw [hz, e, hm, bne_eq_false_iff_eq]
      rw [Int.tdiv_neg, Int.tdiv_one]; simp only [wrap64]; omega
  · by_cases hx : x = 0
    · have hz : wrap64 (x * y) = x * y := by rw [hx, Int.zero_mul]; simp only [wrap64]; omega
      exact walk_c x y _ w h0 h1 h2 h3 h4 h5 rfl hz (.inr (.inr ⟨by simp [hm], by simp [hx]⟩))
    · by_cases hq : wrap64 ((wrap64 (x * y)).tdiv x) = y
      · have hz := exact_mul x y _ hx hm h0 h1 h4 h5 rfl hq
        have hd : (wrap64 (x * y)).tdiv x = y := by
          have hb := quo_bd (wrap64 (x * y)) x hx hm h4 h5
          generalize (wrap64 (x * y)).tdiv x = d at *
          simp only [wrap64] at hq; omega
        exact walk_c x y _ w h0 h1 h2 h3 h4 h5 rfl hz (.inl ⟨by simp [hm], by simp [hx], hx, by simp [hq], by simp [hd]⟩)
      · exact walk_b x y w h0 h1 h2 h3 (by simp [hm]) (by simp [hx]) (by simp [hq])

/-! ### STEP 1: THE WALK: the Go text returns true. 'Grown w w'': the world has at most new blocks (Derived/RowKit3.lean). Part the cases AHEAD of 'go_enter' where a test parts the walk; take each callee by a contract of your own. -/
theorem walk (a0 : Int) (a1 : Int) (w0 : (Lit.int .i64 a0).wf = true) (w1 : (Lit.int .i64 a1).wf = true) (w : World) :
    Calls Try.prog 4 #[.int .i64 a0, .int .i64 a1] w fun e w' => e = .returned (.bool true) ∧ Grown w w' := by
  obtain ⟨h0, h1⟩ := bounds_i64 w0
  obtain ⟨h2, h3⟩ := bounds_i64 w1
  exact (walk_all a0 a1 w h0 h1 h2 h3).mono (by rintro e w' ⟨rfl, rfl⟩; exact ⟨rfl, Grown.refl _⟩)

/-! ### THE ROW's STEP: WRITTEN OUT: LEAVE IT -/
set_option maxRecDepth 100000 in
theorem lifted (os : Os) (started : os.Started) (H : Type) (enc : TypeId × Value → H) :
    ReturnsInHanded {} Try.checked os 4 .any (Rows.fnMagnitudeProductSpec.pre6 enc Try.prog Try.f4 Rows.fnMagnitudeProductRow.domain false) (Rows.fnMagnitudeProductSpec.post enc Try.prog Try.f4 false true false false) := by
  refine returnsInHanded_of_change (C := Try.checked) own started (by kernel_rfl) Try.func4
    (ChangeSpec.witness6 (enc := enc) (C := Try.checked) false ⟨#[], #[.int .i64 0, .int .i64 0], []⟩ 8 (by kernel_rfl) (by kernel_rfl) (by kernel_rfl) (by kernel_rfl)) ?_
  intro W base args ds gs before hval0 hW hcnd _
  have hval : ∀ (j : Nat) t v, Try.f4.params[j]? = some t → args[j]? = some v → Value.okWide Try.prog W .any base t v := hval0
  have hW' := hW
  obtain ⟨p, q, hA0, hV, rfl, hfz, hnd⟩ := hW
  have hA : DataW.TrodAll enc Try.prog W 0 (fun _ => true) true Try.f4.params.toList args.toList ds p := hA0
  rw [Try.params4] at hA hval
  obtain ⟨v0, vs0, d0, ds0, p0, q0, hargs, rfl, rfl, h0, r0⟩ := trodAll_cons hA
  obtain ⟨v1, vs1, d1, ds1, p1, q1, rfl, rfl, rfl, h1, r1⟩ := trodAll_cons r0
  obtain ⟨rfl, rfl, rfl⟩ := trodAll_nil r1
  obtain rfl : args = #[v0, v1] := by cases args; simp_all
  obtain ⟨rfl, rfl⟩ := trodVars_none hV
  obtain ⟨a0, rfl, rfl, rfl, w0⟩ := open_int Try.underlying2 (hval 0 2 v0 rfl rfl) h0
  obtain ⟨a1, rfl, rfl, rfl, w1⟩ := open_int Try.underlying2 (hval 1 2 v1 rfl rfl) h1
  clear hA0 hval0
  simp only [List.append_nil] at hW'
  refine (walk a0 a1 w0 w1 W).mono fun e W' ⟨he, hg⟩ => ?_
  subst he
  exact ⟨_, rfl, post_of_same (pa := []) (pv := []) hW' (fun _ _ _ => (trodAll_cons_mk (shut_bool Try.underlying4 _) trodAll_mk0)) (fun sp _ => (trodAll_cons_mk (shut_int Try.underlying2 w0) (trodAll_cons_mk (shut_int Try.underlying2 w1) trodAll_mk0))) (fun _ _ => rfl) rfl
    (hg.frame _) hg.2.1 (ok_one (by kernel_rfl) rfl (okWide_bool_mk Try.underlying4 _))⟩

theorem over : Rows.fnMagnitudeProductRow.holds Try.pinned (OpenSpec.ofChange Rows.fnMagnitudeProductSpec) :=
  OpenClaim.holds_of_wide 4 Try.f4 rfl rfl rfl rfl rfl rfl rfl ⟨rfl, rfl, rfl, rfl, rfl⟩ rfl rfl rfl rfl rfl (by kernel_rfl) Try.func4 (by kernel_rfl)
    (of_decide_eq_true (by kernel_rfl)) (by unfold Func.isWrapper; first | (rw [if_pos (by decide +kernel)]; kernel_rfl) | (rw [if_neg (by decide +kernel)]; exact ⟨rfl, rfl⟩))
    (fun os started H enc _ => lifted os started H enc)

/-- ████ THE STATEMENT ████ -/
theorem proved : Rows.FnMagnitudeProductSaid :=
  over
end Go.Proofs.Qxb6617344a.fnMagnitudeProduct
