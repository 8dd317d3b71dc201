/-
  Proof of 'Rows.FnRoundOddAndScaleFreeSaid' over the frame that proof-skeleton.mjs wrote for this function.
-/
import Derived.Test.Qxb6617364aRows
import Derived.WalkKit
import Derived.ProofKit
import Derived.OpenShut
import Derived.ShutString
import Derived.Handy
import Derived.BigQuiet
namespace Go.Proofs.Qxb6617364a.fnRoundOddAndScaleFree
open Go.ChangeShapes Go.WideShapes Go.ChangeAt Go.RowKit
open Go.ChangeMaps (open_string shut_string)
set_option linter.unusedVariables false      -- a walk need not use every 'w<i>' (that an integer argument fits its kind)

theorem own : ownKnob Try.prog.godebug = none := by kernel_rfl


/-! ### The plain numbers -/
/-- 'round' as a plain function: v in units of u, halves away from zero. -/
def rnd (v u : Int) : Int := if 0 < v.tmod u ∧ u - v.tmod u ≤ v.tmod u then v.tdiv u + 1 else if v.tmod u < 0 ∧ u + v.tmod u ≤ - v.tmod u then v.tdiv u - 1 else v.tdiv u

theorem rnd_neg (v u : Int) : rnd (-v) u = - rnd v u := by
  unfold rnd
  rw [Int.neg_tdiv, Int.neg_tmod]
  repeat' split
  all_goals omega
theorem le_mul_iff (a b m : Int) (hm : 1 ≤ m) : a * m ≤ b * m ↔ a ≤ b := by
  constructor
  · intro h; exact Int.le_of_mul_le_mul_right h (by omega)
  · intro h; exact Int.mul_le_mul_of_nonneg_right h (by omega)
theorem lt_mul_iff (a b m : Int) (hm : 1 ≤ m) : a * m < b * m ↔ a < b := by
  constructor
  · intro h; exact Int.lt_of_mul_lt_mul_right h (by omega)
  · intro h; exact Int.mul_lt_mul_of_pos_right h (by omega)
theorem rnd_scale (v u m : Int) (hm : 1 ≤ m) : rnd (v * m) (u * m) = rnd v u := by
  have e1 : (v * m).tdiv (u * m) = v.tdiv u := by rw [Int.mul_comm v, Int.mul_comm u]; exact Int.mul_tdiv_mul_of_pos _ _ (by omega)
  have e2 : (v * m).tmod (u * m) = v.tmod u * m := by rw [Int.mul_comm v, Int.mul_comm u, Int.mul_tmod_mul_of_pos _ _ (by omega), Int.mul_comm]
  unfold rnd
  rw [e1, e2]
  have a1 : (0 < v.tmod u * m) = (0 < v.tmod u) := by
    have := lt_mul_iff 0 (v.tmod u) m hm; rw [Int.zero_mul] at this; exact propext this
  have a2 : (u * m - v.tmod u * m ≤ v.tmod u * m) = (u - v.tmod u ≤ v.tmod u) := by
    rw [← Int.sub_mul]; exact propext (le_mul_iff _ _ m hm)
  have a3 : (v.tmod u * m < 0) = (v.tmod u < 0) := by
    have := lt_mul_iff (v.tmod u) 0 m hm; rw [Int.zero_mul] at this; exact propext this
  have a4 : (u * m + v.tmod u * m ≤ -(v.tmod u * m)) = (u + v.tmod u ≤ -v.tmod u) := by
    rw [← Int.add_mul, ← Int.neg_mul]; exact propext (le_mul_iff _ _ m hm)
  simp only [a1, a2, a3, a4]
theorem parts (v u : Int) (hu : 1 ≤ u) : v = u * v.tdiv u + v.tmod u ∧ -u < v.tmod u ∧ v.tmod u < u ∧ (0 ≤ v → 0 ≤ v.tmod u ∧ 0 ≤ v.tdiv u) ∧ (v ≤ 0 → v.tmod u ≤ 0 ∧ v.tdiv u ≤ 0) := by
  have h1 := (Int.mul_tdiv_add_tmod v u).symm
  have h2 : (v.tmod u).natAbs < u.natAbs := by rw [Int.natAbs_tmod]; exact Nat.mod_lt _ (by omega)
  refine ⟨h1, by omega, by omega, fun h => ⟨Int.tmod_nonneg _ h, Int.tdiv_nonneg h (by omega)⟩, fun h => ?_⟩
  have h3 : 0 ≤ (-v).tmod u := Int.tmod_nonneg _ (by omega)
  have h4 : 0 ≤ (-v).tdiv u := Int.tdiv_nonneg (by omega) (by omega)
  rw [Int.neg_tmod] at h3; rw [Int.neg_tdiv] at h4; omega
/-- 'q is 0 exactly when 2|v| < unit' -/
theorem rnd_zero_pos (v u : Int) (hu : 1 ≤ u) (hv : 0 ≤ v) : rnd v u = 0 ↔ v < u - v := by
  obtain ⟨h1, h2, h3, h4, _⟩ := parts v u hu
  obtain ⟨h5, h6⟩ := h4 hv
  have h7 : v.tdiv u = 0 ∨ (v.tdiv u ≠ 0 ∧ u ≤ u * v.tdiv u) := by
    by_cases h : v.tdiv u = 0
    · exact .inl h
    · refine .inr ⟨h, ?_⟩
      have := Int.mul_le_mul_of_nonneg_left (show 1 ≤ v.tdiv u by omega) (show 0 ≤ u by omega)
      omega
  unfold rnd
  generalize v.tdiv u = q at *
  generalize v.tmod u = r at *
  rcases h7 with h7 | ⟨hq, h7⟩
  · subst h7; rw [Int.mul_zero] at h1
    repeat' split
    all_goals omega
  · generalize u * q = t at *
    repeat' split
    all_goals omega
theorem rnd_zero_neg (v u : Int) (hu : 1 ≤ u) (hv : v < 0) : rnd v u = 0 ↔ -v < u - -v := by
  have := rnd_zero_pos (-v) u hu (by omega)
  rw [rnd_neg] at this
  omega
theorem quo_bd (v u : Int) (hu : 1 ≤ u) : (v.tdiv u).natAbs ≤ v.natAbs ∧ (2 ≤ u → (v.tdiv u).natAbs ≤ v.natAbs / 2) := by
  have h := Int.natAbs_tdiv v u
  have h1 : v.natAbs / u.natAbs ≤ v.natAbs := Nat.div_le_self _ _
  refine ⟨by rw [h]; exact h1, fun h2 => ?_⟩
  have h3 : v.natAbs / u.natAbs ≤ v.natAbs / 2 := Nat.div_le_div_left (by omega) (by omega)
  rw [h]; exact h3
theorem rnd_bd (v u : Int) (h0 : -9223372036854775807 ≤ v) (h1 : v ≤ 9223372036854775807) (hu : 1 ≤ u) :
    -9223372036854775807 ≤ rnd v u ∧ rnd v u ≤ 9223372036854775807 := by
  obtain ⟨a, b⟩ := quo_bd v u hu
  obtain ⟨_, h2, h3, _, _⟩ := parts v u hu
  unfold rnd
  generalize v.tdiv u = q at *
  generalize v.tmod u = r at *
  by_cases h : 2 ≤ u
  · have := b h
    repeat' split
    all_goals omega
  · repeat' split
    all_goals omega
theorem scale_bd (v m : Int) (hm : 1 ≤ m) (h1 : v ≤ (9223372036854775807 : Int).tdiv m) (h2 : -(9223372036854775807 : Int).tdiv m ≤ v) :
    -9223372036854775807 ≤ v * m ∧ v * m ≤ 9223372036854775807 := by
  have h3 : (9223372036854775807 : Int).tdiv m * m ≤ 9223372036854775807 := by
    have e := Int.mul_tdiv_add_tmod 9223372036854775807 m
    have e2 : 0 ≤ (9223372036854775807 : Int).tmod m := Int.tmod_nonneg _ (by omega)
    rw [Int.mul_comm]; omega
  have h4 := Int.mul_le_mul_of_nonneg_right h1 (show 0 ≤ m by omega)
  have h5 := Int.mul_le_mul_of_nonneg_right h2 (show 0 ≤ m by omega)
  rw [Int.neg_mul] at h5
  omega
theorem wrap64_id (n : Int) (h0 : -9223372036854775807 ≤ n) (h1 : n ≤ 9223372036854775807) : wrap64 n = n := by
  simp only [wrap64]; omega
theorem lim_bd (m : Int) (hm : 1 ≤ m) (hm' : m ≤ 9223372036854775807) : 1 ≤ (9223372036854775807 : Int).tdiv m ∧ (9223372036854775807 : Int).tdiv m ≤ 9223372036854775807 := by
  obtain ⟨a, _⟩ := quo_bd 9223372036854775807 m hm
  have e := Int.mul_tdiv_add_tmod 9223372036854775807 m
  have e2 : (9223372036854775807 : Int).tmod m < m := Int.tmod_lt_of_pos _ (by omega)
  have e3 : 0 ≤ (9223372036854775807 : Int).tdiv m := Int.tdiv_nonneg (by omega) (by omega)
  refine ⟨?_, by omega⟩
  by_cases h : (9223372036854775807 : Int).tdiv m = 0
  · rw [h, Int.mul_zero] at e; omega
  · omega

/-! ### The walks -/
theorem rnd_walk (v u q r : Int) (w : World) (h0 : -9223372036854775807 ≤ v) (h1 : v ≤ 9223372036854775807) (h2 : 1 ≤ u) (h3 : u ≤ 9223372036854775807)
    (hu : ¬ u = 0) (hq : v.tdiv u = q) (hr : v.tmod u = r) (b0 : -9223372036854775807 ≤ q) (b1 : q ≤ 9223372036854775807) (b2 : -u < r) (b3 : r < u)
    (b4 : r ≠ 0 → -9223372036854775806 ≤ q ∧ q ≤ 9223372036854775806) :
    Calls Try.prog 12 #[.int .i64 v, .int .i64 u] w fun e w' => e = .returned (.int .i64 (if 0 < r ∧ u - r ≤ r then q + 1 else if r < 0 ∧ u + r ≤ -r then q - 1 else q)) ∧ ∃ n, w' = w.drewN n := by
  by_cases hp : 0 < r
  · obtain ⟨b5, b6⟩ := b4 (by omega)
    clear b4
    by_cases hh : u - r ≤ r
    · rw [if_pos ⟨hp, hh⟩]
      go_enter Try.func12, Try.ntmps12
      go_wp2
      go_quiet (fail)
      go_wp2
      go_ret
      exact ⟨rfl, _, rfl⟩
    · rw [if_neg (by omega), if_neg (by omega)]
      have hl : decide (r < 0) = false := by simp; omega
      go_enter Try.func12, Try.ntmps12
      go_wp2
      go_quiet (fail)
      go_wp2
      go_ret
      exact ⟨rfl, _, rfl⟩
  · rw [if_neg (by omega)]
    have hg : decide (0 < r) = false := by simp; omega
    by_cases hn : r < 0
    · obtain ⟨b5, b6⟩ := b4 (by omega)
      clear b4
      by_cases hh : u + r ≤ -r
      · rw [if_pos ⟨hn, hh⟩]
        go_enter Try.func12, Try.ntmps12
        go_wp2
        go_quiet (fail)
        go_wp2
        go_ret
        exact ⟨rfl, _, rfl⟩
      · rw [if_neg (by omega)]
        go_enter Try.func12, Try.ntmps12
        go_wp2
        go_quiet (fail)
        go_wp2
        go_ret
        exact ⟨rfl, _, rfl⟩
    · rw [if_neg (by omega)]
      clear b4
      have hl : decide (r < 0) = false := by simp; omega
      go_enter Try.func12, Try.ntmps12
      go_wp2
      go_quiet (fail)
      go_wp2
      go_ret
      exact ⟨rfl, _, rfl⟩
theorem rnd_calls (v u : Int) (w : World) (h0 : -9223372036854775807 ≤ v) (h1 : v ≤ 9223372036854775807) (h2 : 1 ≤ u) (h3 : u ≤ 9223372036854775807) :
    Calls Try.prog 12 #[.int .i64 v, .int .i64 u] w fun e w' => e = .returned (.int .i64 (rnd v u)) ∧ ∃ n, w' = w.drewN n := by
  obtain ⟨a, b⟩ := quo_bd v u h2
  obtain ⟨_, h4, h5, _, _⟩ := parts v u h2
  refine rnd_walk v u _ _ w h0 h1 h2 h3 (by omega) rfl rfl (by omega) (by omega) h4 h5 ?_
  intro hr
  have := b (by omega)
  omega
theorem walk_in (v u m lim z1 z2 Q : Int) (w : World) (h0 : -9223372036854775807 ≤ v) (h1 : v ≤ 9223372036854775807) (h2 : 1 ≤ u) (h3 : u ≤ 9223372036854775807)
    (h4 : 1 ≤ m) (h5 : m ≤ 9223372036854775807) (hm : ¬ m = 0) (hv : (v == -9223372036854775808) = false) (hl : Int.tdiv 9223372036854775807 m = lim) (l0 : 1 ≤ lim) (l1 : lim ≤ 9223372036854775807)
    (g1 : u ≤ lim) (g2 : v ≤ lim) (g3 : -lim ≤ v) (hz1 : wrap64 (v * m) = z1) (hz2 : wrap64 (u * m) = z2)
    (k1 : -9223372036854775807 ≤ z1) (k2 : z1 ≤ 9223372036854775807) (k3 : 1 ≤ z2) (k4 : z2 ≤ 9223372036854775807)
    (e1 : rnd v u = Q) (e2 : rnd (-v) u = -Q) (e3 : rnd z1 z2 = Q) (q0 : -9223372036854775807 ≤ Q) (q1 : Q ≤ 9223372036854775807)
    (fin : (v < 0 ∧ ((Q == 0) == decide (-v < u + v)) = true) ∨ (0 ≤ v ∧ ((Q == 0) == decide (v < u - v)) = true)) :
    Calls Try.prog 5 #[.int .i64 v, .int .i64 u, .int .i64 m] w fun e w' => e = .returned (.bool true) ∧ ∃ n, w' = w.drewN n := by
  rcases fin with ⟨hs, fin⟩ | ⟨hs, fin⟩
  all_goals
    go_enter Try.func5, Try.ntmps5
    go_wp2_with (go_at_call 12; refine (rnd_calls _ _ _ (by omega) (by omega) (by omega) (by omega)).mono ?_; rintro e w' ⟨rfl, n, rfl⟩)
    go_ret
    exact ⟨rfl, _, rfl⟩
theorem walk_far (v u m lim : Int) (w : World) (h0 : -9223372036854775807 ≤ v) (h1 : v ≤ 9223372036854775807) (h2 : 1 ≤ u) (h3 : u ≤ 9223372036854775807)
    (h4 : 1 ≤ m) (h5 : m ≤ 9223372036854775807) (hm : ¬ m = 0) (hv : (v == -9223372036854775808) = false) (hl : Int.tdiv 9223372036854775807 m = lim) (l0 : 1 ≤ lim) (l1 : lim ≤ 9223372036854775807)
    (g : lim < u ∨ lim < v ∨ v < -lim) :
    Calls Try.prog 5 #[.int .i64 v, .int .i64 u, .int .i64 m] w fun e w' => e = .returned (.bool true) ∧ w' = w := by
  by_cases g1 : lim < u
  · go_enter Try.func5, Try.ntmps5
    go_wp2
    go_ret
    exact ⟨rfl, rfl⟩
  by_cases g2 : lim < v
  · go_enter Try.func5, Try.ntmps5
    go_wp2
    go_ret
    exact ⟨rfl, rfl⟩
  have g3 : v < -lim := by omega
  go_enter Try.func5, Try.ntmps5
  go_wp2
  go_ret
  exact ⟨rfl, rfl⟩
theorem walk_unit (v u m : Int) (w : World) (h : u < 1) :
    Calls Try.prog 5 #[.int .i64 v, .int .i64 u, .int .i64 m] w fun e w' => e = .returned (.bool true) ∧ w' = w := by
  go_enter Try.func5, Try.ntmps5
  go_wp2
  go_ret
  exact ⟨rfl, rfl⟩
theorem walk_min (u m : Int) (w : World) (h : 1 ≤ u) :
    Calls Try.prog 5 #[.int .i64 (-9223372036854775808), .int .i64 u, .int .i64 m] w fun e w' => e = .returned (.bool true) ∧ w' = w := by
  go_enter Try.func5, Try.ntmps5
  go_wp2
  go_ret
  exact ⟨rfl, rfl⟩
theorem walk_m (v u m : Int) (w : World) (h : 1 ≤ u) (hv : (v == -9223372036854775808) = false) (hm : m < 1) :
    Calls Try.prog 5 #[.int .i64 v, .int .i64 u, .int .i64 m] w fun e w' => e = .returned (.bool true) ∧ w' = w := by
  go_enter Try.func5, Try.ntmps5
  go_wp2
  go_ret
  exact ⟨rfl, rfl⟩
theorem walk_all (v u m : Int) (w : World) (b0 : -9223372036854775808 ≤ v) (b1 : v ≤ 9223372036854775807) (b2 : u ≤ 9223372036854775807) (b3 : m ≤ 9223372036854775807) :
    Calls Try.prog 5 #[.int .i64 v, .int .i64 u, .int .i64 m] w fun e w' => e = .returned (.bool true) ∧ ∃ n, w' = w.drewN n := by
  have same : ∀ {e : Ending} {w' : World}, (e = .returned (.bool true) ∧ w' = w) → (e = .returned (.bool true) ∧ ∃ n, w' = w.drewN n) :=
    fun h => ⟨h.1, 0, h.2⟩
  by_cases hu : u < 1
  · exact (walk_unit v u m w hu).mono (fun e w' h => same h)
  by_cases hv : v = -9223372036854775808
  · rw [hv]; exact (walk_min u m w (by omega)).mono (fun e w' h => same h)
  have hv' : (v == -9223372036854775808) = false := beq_eq_false_iff_ne.2 hv
  by_cases hm : m < 1
  · exact (walk_m v u m w (by omega) hv' hm).mono (fun e w' h => same h)
  obtain ⟨l0, l1⟩ := lim_bd m (by omega) b3
  by_cases g : Int.tdiv 9223372036854775807 m < u ∨ Int.tdiv 9223372036854775807 m < v ∨ v < -Int.tdiv 9223372036854775807 m
  · exact (walk_far v u m _ w (by omega) b1 (by omega) b2 (by omega) b3 (by omega) hv' rfl l0 l1 g).mono (fun e w' h => same h)
  · obtain ⟨s1, s2⟩ := scale_bd v m (by omega) (by omega) (by omega)
    obtain ⟨s3, s4⟩ := scale_bd u m (by omega) (by omega) (by omega)
    have s5 : 1 ≤ u * m := by
      have := Int.mul_le_mul_of_nonneg_right (show 1 ≤ u by omega) (show 0 ≤ m by omega)
      omega
    obtain ⟨r1, r2⟩ := rnd_bd v u (by omega) b1 (by omega)
    refine walk_in v u m _ _ _ (rnd v u) w (by omega) b1 (by omega) b2 (by omega) b3 (by omega) hv' rfl l0 l1 (by omega) (by omega) (by omega)
      (wrap64_id (v * m) s1 s2) (wrap64_id (u * m) s3 s4) s1 s2 s5 s4 rfl (rnd_neg v u) (rnd_scale v u m (by omega)) r1 r2 ?_
    by_cases hs : v < 0
    · refine .inl ⟨hs, ?_⟩
      have := rnd_zero_neg v u (by omega) hs
      rw [beq_iff_eq, Bool.eq_iff_iff, beq_iff_eq, decide_eq_true_eq, this]; omega
    · refine .inr ⟨by omega, ?_⟩
      have := rnd_zero_pos v u (by omega) (by omega)
      rw [beq_iff_eq, Bool.eq_iff_iff, beq_iff_eq, decide_eq_true_eq, this]
theorem grown_drewN (w : World) (n : Nat) : Grown w (w.drewN n) := by
  induction n with
  | zero => exact Grown.refl _
  | succ n ih => exact Grown.drew ih

/-! ### STEP 1: THE WALK: the Go text returns true. 'Grown w w'': the world has at most new blocks (Derived/RowKit3.lean). Part the cases AHEAD of 'go_enter' where a test parts the walk; take each callee by a contract of your own. -/
theorem walk (a0 : Int) (a1 : Int) (a2 : Int) (w0 : (Lit.int .i64 a0).wf = true) (w1 : (Lit.int .i64 a1).wf = true) (w2 : (Lit.int .i64 a2).wf = true) (w : World) :
    Calls Try.prog 5 #[.int .i64 a0, .int .i64 a1, .int .i64 a2] w fun e w' => e = .returned (.bool true) ∧ Grown w w' := by
  obtain ⟨h0, h1⟩ := bounds_i64 w0
  obtain ⟨_, h3⟩ := bounds_i64 w1
  obtain ⟨_, h5⟩ := bounds_i64 w2
  exact (walk_all a0 a1 a2 w h0 h1 h3 h5).mono (by rintro e w' ⟨rfl, n, rfl⟩; exact ⟨rfl, grown_drewN w n⟩)

/-! ### THE ROW's STEP: WRITTEN OUT: LEAVE IT -/
set_option maxRecDepth 100000 in
theorem lifted (os : Os) (started : os.Started) (H : Type) (enc : TypeId × Value → H) :
    ReturnsInHanded {} Try.checked os 5 .any (Rows.fnRoundOddAndScaleFreeSpec.pre6 enc Try.prog Try.f5 Rows.fnRoundOddAndScaleFreeRow.domain false) (Rows.fnRoundOddAndScaleFreeSpec.post enc Try.prog Try.f5 false true false false) := by
  refine returnsInHanded_of_change (C := Try.checked) own started (by kernel_rfl) Try.func5
    (ChangeSpec.witness6 (enc := enc) (C := Try.checked) false ⟨#[], #[.int .i64 0, .int .i64 0, .int .i64 0], []⟩ 8 (by kernel_rfl) (by kernel_rfl) (by kernel_rfl) (by kernel_rfl)) ?_
  intro W base args ds gs before hval0 hW hcnd _
  have hval : ∀ (j : Nat) t v, Try.f5.params[j]? = some t → args[j]? = some v → Value.okWide Try.prog W .any base t v := hval0
  have hW' := hW
  obtain ⟨p, q, hA0, hV, rfl, hfz, hnd⟩ := hW
  have hA : DataW.TrodAll enc Try.prog W 0 (fun _ => true) true Try.f5.params.toList args.toList ds p := hA0
  rw [Try.params5] at hA hval
  obtain ⟨v0, vs0, d0, ds0, p0, q0, hargs, rfl, rfl, h0, r0⟩ := trodAll_cons hA
  obtain ⟨v1, vs1, d1, ds1, p1, q1, rfl, rfl, rfl, h1, r1⟩ := trodAll_cons r0
  obtain ⟨v2, vs2, d2, ds2, p2, q2, rfl, rfl, rfl, h2, r2⟩ := trodAll_cons r1
  obtain ⟨rfl, rfl, rfl⟩ := trodAll_nil r2
  obtain rfl : args = #[v0, v1, v2] := by cases args; simp_all
  obtain ⟨rfl, rfl⟩ := trodVars_none hV
  obtain ⟨a0, rfl, rfl, rfl, w0⟩ := open_int Try.underlying2 (hval 0 2 v0 rfl rfl) h0
  obtain ⟨a1, rfl, rfl, rfl, w1⟩ := open_int Try.underlying2 (hval 1 2 v1 rfl rfl) h1
  obtain ⟨a2, rfl, rfl, rfl, w2⟩ := open_int Try.underlying2 (hval 2 2 v2 rfl rfl) h2
  clear hA0 hval0
  simp only [List.append_nil] at hW'
  refine (walk a0 a1 a2 w0 w1 w2 W).mono fun e W' ⟨he, hg⟩ => ?_
  subst he
  exact ⟨_, rfl, post_of_same (pa := []) (pv := []) hW' (fun _ _ _ => (trodAll_cons_mk (shut_bool Try.underlying4 _) trodAll_mk0)) (fun sp _ => (trodAll_cons_mk (shut_int Try.underlying2 w0) (trodAll_cons_mk (shut_int Try.underlying2 w1) (trodAll_cons_mk (shut_int Try.underlying2 w2) trodAll_mk0)))) (fun _ _ => rfl) rfl
    (hg.frame _) hg.2.1 (ok_one (by kernel_rfl) rfl (okWide_bool_mk Try.underlying4 _))⟩

theorem over : Rows.fnRoundOddAndScaleFreeRow.holds Try.pinned (OpenSpec.ofChange Rows.fnRoundOddAndScaleFreeSpec) :=
  OpenClaim.holds_of_wide 5 Try.f5 rfl rfl rfl rfl rfl rfl rfl ⟨rfl, rfl, rfl, rfl, rfl⟩ rfl rfl rfl rfl rfl (by kernel_rfl) Try.func5 (by kernel_rfl)
    (of_decide_eq_true (by kernel_rfl)) (by unfold Func.isWrapper; first | (rw [if_pos (by decide +kernel)]; kernel_rfl) | (rw [if_neg (by decide +kernel)]; exact ⟨rfl, rfl⟩))
    (fun os started H enc _ => lifted os started H enc)

/-- ████ THE STATEMENT ████ -/
theorem proved : Rows.FnRoundOddAndScaleFreeSaid :=
  over
end Go.Proofs.Qxb6617364a.fnRoundOddAndScaleFree
