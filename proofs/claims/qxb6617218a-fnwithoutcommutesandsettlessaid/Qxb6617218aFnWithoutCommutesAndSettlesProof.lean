/-
  Proof of 'Rows.FnWithoutCommutesAndSettlesSaid'. The row's step is the guide's own frame (proof-skeleton.mjs, a law over slices), turned to slices of strings.
-/
import Derived.Test.Qxb6617218aWoBase
namespace Go.Proofs.Qxb6617218a.wo
open Go.ChangeShapes Go.WideShapes Go.ChangeAt Go.RowKit
set_option linter.unusedVariables false

theorem bytes14_calls (a : Option Addr) (cap : Nat) (ss : List ByteArray) (l m : ByteArray) (w : World) (hc : Came w a ss) :
    Calls Try.prog 14 #[.slice a ss.length cap, .string l, .string m] w fun e w' => IsB e ∧ w = w' := by
  by_cases hbig : 1048576 < (ss.length : Int)
  · go_enter Try.func14, Try.ntmps14
    go_wp2
    go_ret
    exact ⟨.inr rfl, rfl⟩
  go_enter Try.func14, Try.ntmps14
  go_wp2
  go_loop [7, 8] (fun c i => ∃ k x : Nat, k ≤ ss.length ∧ i = .int .i64 k ∧ c = .int .i64 x ∧ x ≤ 1048576) (fun _ i => ss.length - (intOf i).toNat)
  case atStart => exact ⟨0, ss.length, Nat.zero_le _, rfl, rfl, by omega⟩
  case round =>
    obtain ⟨k, x, hk, rfl, rfl, hx⟩ := hrel
    by_cases hlt : k < ss.length
    · obtain ⟨b, off, rfl, hb, hcell⟩ := hc (by omega)
      have hck := hcell k hlt
      clear hcell
      go_wp2
      all_goals first
        | (go_ret; exact ⟨.inr rfl, rfl⟩)
        | (go_round
           case rel => exact ⟨k + 1, x + ss[k].size, by omega, by go_num, by go_num, by omega⟩
           case measure => simp [intOf]; omega)
    · go_wp2
      all_goals first | (go_ret; exact ⟨.inr rfl, rfl⟩) | (go_ret; exact ⟨.inl rfl, rfl⟩)

set_option maxHeartbeats 2000000 in
theorem law6_some (x : Addr) (cap : Nat) (ss : List ByteArray) (l m : ByteArray) (w : World) (hc : Came w (some x) ss) :
    Calls Try.prog 6 #[.slice (some x) ss.length cap, .string l, .string m] w fun e w' => e = .returned (.bool true) ∧ Below w.heap.size w w' := by
  obtain ⟨i0, hi, hz0, hz1, hz2⟩ := info_parts Try.info9
  have hnq := fun (w : World) (a : Option Addr) (n c n' c' : Nat) => run_neq_slice_nil_any (P := Try.prog) w 26 9 a n c n' c' Try.underlying26
  go_enter Try.func6, Try.ntmps6
  go_wp2_with fail
  refine (bytes14_calls _ _ _ _ _ _ hc).mono ?_
  rintro e w' ⟨hB, rfl⟩
  rcases hB with rfl | rfl
  · by_cases h1 : 65536 < (ss.length : Int)
    · go_wp2_with fail
      go_ret
      exact ⟨rfl, Below.refl _ _⟩
    by_cases h2 : 1048576 < (l.size : Int)
    · go_wp2_with fail
      go_ret
      exact ⟨rfl, Below.refl _ _⟩
    by_cases h3 : 1048576 < (m.size : Int)
    · go_wp2_with fail
      go_ret
      exact ⟨rfl, Below.refl _ _⟩
    go_wp2_with (at_make; refine wpList_make_full _ rfl _ _ 26 rfl w.heap.size 9 i0 (.string ByteArray.empty) 1 Try.underlying26 hi hz0 hz1 .i64 .i64 _ _ ss.length rfl rfl rfl rfl ?_ ?_ (Nat.le_refl _) ?_)
    · rw [hz2]; omega
    · unfold maxLen; omega
    intro w1 hown1 hgrow1
    obtain ⟨cur, hcur, hcl⟩ := made_cur hown1
    have hb1 : Below w.heap.size w w1 := (Below.refl _ _).grown hgrow1 (Nat.le_refl _) (by simp)
    clear hown1 hgrow1
    generalize hg : w.heap.size = g at *
    generalize hcs : ss.map Value.string = cs at *
    have hcsl : cs.length = ss.length := by rw [← hcs]; simp
    have HCS : Hid (ss.map Value.string = cs) := hcs
    have HG : Hid (w.heap.size = g) := hg
    clear hcs hg
    go_wp2_with (refine wpList_copy_splice rfl (.tmp 37) (.tmp 38) 26 26 rfl 9 Try.underlying26 (by kernel_rfl) _ _ _ _ _ _ rfl rfl g 0 cur 9 hcur cs ?_ ?_ ?_ ?_ g w hb1 (Nat.le_refl _) ?_)
    · rw [hcsl]; exact (Nat.min_self _).symm
    · intro h0 j v hv
      obtain ⟨ad, e, hsrc⟩ := came_src hc (by rw [HG.out]; exact hb1) h0
      cases e
      exact hsrc j v (by rw [HCS.out]; exact hv)
    · rw [Nat.zero_add, hcsl, hcl]; exact Nat.le_refl _
    · rw [← HCS.out]; exact strs_oneCell ss
    intro w2 HG2 hb2
    have hrow : Row w2 (.slice (some ⟨g, 0, none⟩) ss.length ss.length) ss := row_spliced (cur := cur) (by rw [HCS.out]; exact HG2.out) hcl _
    clear hcur HG2 hb1 hc hcl hcsl HCS
    have hcell : ∀ i, i < ss.length → w2.cell? ⟨g, 0 + i, none⟩ = some (.string (ss.getD i ByteArray.empty)) := by
      rcases hrow with ⟨h0, _⟩ | ⟨b, off, cap', e, _, hcell⟩
      · cases h0
      · cases e; exact hcell
    simp only [Nat.zero_add] at hcell
    by_cases h4 : 1048576 < (l.size : Int) + m.size + 16 * ss.length
    · go_wp2_with fail
      go_ret
      exact ⟨rfl, by rw [HG.out]; exact hb2⟩
    go_wp2_with fail
    go_loop [8, 9] (fun c i => ∃ (k : Nat) (x : Int), k ≤ ss.length ∧ i = .int .i64 k ∧ c = .int .i64 x) (fun _ i => ss.length - (intOf i).toNat)
    case atStart => exact ⟨0, _, Nat.zero_le _, rfl, rfl⟩
    case round =>
      obtain ⟨k, x, hk, rfl, rfl⟩ := hrel
      by_cases hlt : k < ss.length
      · have hck := hcell k hlt
        clear hcell
        go_wp2_with fail
        all_goals first
          | (go_ret; exact ⟨rfl, by rw [HG.out]; exact hb2⟩)
          | (go_round
             case rel => exact ⟨k + 1, _, by omega, by go_num, rfl⟩
             case measure => simp [intOf]; omega)
      · clear hcell
        have hn : ss.length ≤ 1048576 := by omega
        have hb2' : Below w.heap.size w w2 := by rw [HG.out]; exact hb2
        clear hb2
        go_wp2_with fail
        refine (without_calls _ ss l _ hrow hn).mono ?_
        rintro e w3 ⟨v1, rfl, r1, b3⟩
        have hrow3 := hrow.below b3
        go_wp2_with fail
        refine (without_calls _ (wl l ss) m _ r1 (Nat.le_trans (wl_le _ _) hn)).mono ?_
        rintro e w4 ⟨x1, rfl, rx1, b4⟩
        have hrow4 := hrow3.below b4
        clear r1 hrow hrow3
        go_wp2_with fail
        refine (without_calls _ ss m _ hrow4 hn).mono ?_
        rintro e w5 ⟨v3, rfl, r3, b5⟩
        have hrow5 := hrow4.below b5
        have rx1' := rx1.below b5
        clear rx1 hrow4
        go_wp2_with fail
        refine (without_calls _ (wl m ss) l _ r3 (Nat.le_trans (wl_le _ _) hn)).mono ?_
        rintro e w6 ⟨x2, rfl, rx2, b6⟩
        have hrow6 := hrow5.below b6
        have rx1 := rx1'.below b6
        clear rx1' hrow5 r3
        go_wp2_with fail
        refine (without_calls _ (wl m (wl l ss)) l _ rx1 (Nat.le_trans (wl_le _ _) (Nat.le_trans (wl_le _ _) hn))).mono ?_
        rintro e w7 ⟨x3, rfl, rx3, b7⟩
        have hrow7 := hrow6.below b7
        have rx1' := rx1.below b7
        have rx2' := rx2.below b7
        clear rx1 rx2 hrow6
        go_wp2_with fail
        refine (without_calls _ (wl m (wl l ss)) m _ rx1' (Nat.le_trans (wl_le _ _) (Nat.le_trans (wl_le _ _) hn))).mono ?_
        rintro e w8 ⟨x4, rfl, rx4, b8⟩
        have hrow8 := hrow7.below b8
        have rx1 := rx1'.below b8
        have rx2 := rx2'.below b8
        have rx3' := rx3.below b8
        clear rx1' rx2' rx3 hrow7
        rw [wl_comm l m ss] at rx2
        rw [wl_twice_l l m ss] at rx3'
        rw [wl_twice_m m (wl l ss)] at rx4
        have hb8 : Below w.heap.size w w8 := below_step (below_step (below_step (below_step (below_step (below_step hb2' b3) b4) b5) b6) b7) b8
        have hn2 : (wl m (wl l ss)).length ≤ 1048576 := Nat.le_trans (wl_le _ _) (Nat.le_trans (wl_le _ _) hn)
        clear b3 b4 b5 b6 b7 b8 hb2'
        go_wp2_with fail
        refine (equal_calls _ _ _ _ hn2 rx1 rx2).mono ?_
        rintro e wq ⟨rfl, n1, rfl⟩
        go_wp2_with fail
        refine (equal_calls _ _ _ _ hn2 (rx3'.below (below_drewN _ _)) (rx1.below (below_drewN _ _))).mono ?_
        rintro e wq ⟨rfl, n2, rfl⟩
        go_wp2_with fail
        refine (equal_calls _ _ _ _ hn2 (rx4.below (below_drewNs _ _ _)) (rx1.below (below_drewNs _ _ _))).mono ?_
        rintro e wq ⟨rfl, n3, rfl⟩
        go_wp2_with fail
        refine (filter_calls _ _ ss _ l m _ (wl_both l m ss) hn (rx1.below (below_drewN _ _)) (hrow8.below (below_drewN _ _))).mono ?_
        rintro e wq ⟨rfl, n4, rfl⟩
        go_wp2_with fail
        go_ret
        exact ⟨rfl, below_step hb8 (below_drewN _ _)⟩
  · go_wp2_with fail
    go_ret
    exact ⟨rfl, Below.refl _ _⟩

set_option maxHeartbeats 2000000 in
theorem law6_nil (l m : ByteArray) (w : World) :
    Calls Try.prog 6 #[.slice none 0 0, .string l, .string m] w fun e w' => e = .returned (.bool true) ∧ Below w.heap.size w w' := by
  have hnq := fun (w : World) (a : Option Addr) (n c n' c' : Nat) => run_neq_slice_nil_any (P := Try.prog) w 26 9 a n c n' c' Try.underlying26
  go_enter Try.func6, Try.ntmps6
  go_wp2_with fail
  refine (bytes14_calls none 0 [] l m _ (fun h => absurd h (by simp))).mono ?_
  rintro e w' ⟨hB, rfl⟩
  rcases hB with rfl | rfl
  · by_cases h2 : 1048576 < (l.size : Int)
    · go_wp2_with fail
      go_ret
      exact ⟨rfl, Below.refl _ _⟩
    by_cases h3 : 1048576 < (m.size : Int)
    · go_wp2_with fail
      go_ret
      exact ⟨rfl, Below.refl _ _⟩
    by_cases h4 : 1048576 < (l.size : Int) + m.size
    · go_wp2_with fail
      go_ret
      exact ⟨rfl, Below.refl _ _⟩
    go_wp2_with fail
    refine wp_loop_rounds 1 ?_
    rw [rounds_succ]
    obtain ⟨ss, hss⟩ : ∃ ss : List ByteArray, ss = [] := ⟨_, rfl⟩
    have hrow : Row w (.slice none 0 0) ss := .inl ⟨rfl, hss⟩
    have hn : ss.length ≤ 1048576 := by rw [hss]; simp
    have hb2' : Below w.heap.size w w := Below.refl _ _
    clear hss
    go_wp2_with fail
    refine (without_calls _ ss l _ hrow hn).mono ?_
    rintro e w3 ⟨v1, rfl, r1, b3⟩
    have hrow3 := hrow.below b3
    go_wp2_with fail
    refine (without_calls _ (wl l ss) m _ r1 (Nat.le_trans (wl_le _ _) hn)).mono ?_
    rintro e w4 ⟨x1, rfl, rx1, b4⟩
    have hrow4 := hrow3.below b4
    clear r1 hrow hrow3
    go_wp2_with fail
    refine (without_calls _ ss m _ hrow4 hn).mono ?_
    rintro e w5 ⟨v3, rfl, r3, b5⟩
    have hrow5 := hrow4.below b5
    have rx1' := rx1.below b5
    clear rx1 hrow4
    go_wp2_with fail
    refine (without_calls _ (wl m ss) l _ r3 (Nat.le_trans (wl_le _ _) hn)).mono ?_
    rintro e w6 ⟨x2, rfl, rx2, b6⟩
    have hrow6 := hrow5.below b6
    have rx1 := rx1'.below b6
    clear rx1' hrow5 r3
    go_wp2_with fail
    refine (without_calls _ (wl m (wl l ss)) l _ rx1 (Nat.le_trans (wl_le _ _) (Nat.le_trans (wl_le _ _) hn))).mono ?_
    rintro e w7 ⟨x3, rfl, rx3, b7⟩
    have hrow7 := hrow6.below b7
    have rx1' := rx1.below b7
    have rx2' := rx2.below b7
    clear rx1 rx2 hrow6
    go_wp2_with fail
    refine (without_calls _ (wl m (wl l ss)) m _ rx1' (Nat.le_trans (wl_le _ _) (Nat.le_trans (wl_le _ _) hn))).mono ?_
    rintro e w8 ⟨x4, rfl, rx4, b8⟩
    have hrow8 := hrow7.below b8
    have rx1 := rx1'.below b8
    have rx2 := rx2'.below b8
    have rx3' := rx3.below b8
    clear rx1' rx2' rx3 hrow7
    rw [wl_comm l m ss] at rx2
    rw [wl_twice_l l m ss] at rx3'
    rw [wl_twice_m m (wl l ss)] at rx4
    have hb8 : Below w.heap.size w w8 := below_step (below_step (below_step (below_step (below_step (below_step hb2' b3) b4) b5) b6) b7) b8
    have hn2 : (wl m (wl l ss)).length ≤ 1048576 := Nat.le_trans (wl_le _ _) (Nat.le_trans (wl_le _ _) hn)
    clear b3 b4 b5 b6 b7 b8 hb2'
    go_wp2_with fail
    refine (equal_calls _ _ _ _ hn2 rx1 rx2).mono ?_
    rintro e wq ⟨rfl, n1, rfl⟩
    go_wp2_with fail
    refine (equal_calls _ _ _ _ hn2 (rx3'.below (below_drewN _ _)) (rx1.below (below_drewN _ _))).mono ?_
    rintro e wq ⟨rfl, n2, rfl⟩
    go_wp2_with fail
    refine (equal_calls _ _ _ _ hn2 (rx4.below (below_drewNs _ _ _)) (rx1.below (below_drewNs _ _ _))).mono ?_
    rintro e wq ⟨rfl, n3, rfl⟩
    go_wp2_with fail
    refine (filter_calls _ _ ss _ l m _ (wl_both l m ss) hn (rx1.below (below_drewN _ _)) (hrow8.below (below_drewN _ _))).mono ?_
    rintro e wq ⟨rfl, n4, rfl⟩
    go_wp2_with fail
    go_ret
    exact ⟨rfl, below_step hb8 (below_drewN _ _)⟩
  · go_wp2_with fail
    go_ret
    exact ⟨rfl, Below.refl _ _⟩
end Go.Proofs.Qxb6617218a.wo
namespace Go.Proofs.Qxb6617218a.fnWithoutCommutesAndSettles
open Go.ChangeShapes Go.WideShapes Go.ChangeAt Go.RowKit
open Go.ChangeMaps (open_string shut_string)
open Go.Proofs.Qxb6617218a.wo
set_option linter.unusedVariables false

theorem walk (a0 : Option Addr) (cap0 : Nat) (z0 : List ByteArray) (a1 a2 : ByteArray) (w : World) (n0 : a0 = none → cap0 = 0 ∧ z0 = []) (w0 : Came w a0 z0) :
    Calls Try.prog 6 #[.slice a0 z0.length cap0, .string a1, .string a2] w fun e w' => e = .returned (.bool true) ∧ Below w.heap.size w w' := by
  cases a0 with
  | none => obtain ⟨rfl, rfl⟩ := n0 rfl; exact law6_nil a1 a2 w
  | some x => exact law6_some x cap0 z0 a1 a2 w w0

/-! ### THE ROW's STEP -/
set_option maxRecDepth 100000 in
theorem lifted (os : Os) (started : os.Started) (H : Type) (enc : TypeId × Value → H) :
    ReturnsInHanded {} Try.checked os 6 .any (Rows.fnWithoutCommutesAndSettlesSpec.pre6 enc Try.prog Try.f6 Rows.fnWithoutCommutesAndSettlesRow.domain false) (Rows.fnWithoutCommutesAndSettlesSpec.post enc Try.prog Try.f6 false true false false) := by
  refine returnsInHanded_of_change (C := Try.checked) own started (by kernel_rfl) Try.func6
    (ChangeSpec.witness6 (enc := enc) (C := Try.checked) false ⟨#[], #[.slice none 0 0, .string ByteArray.empty, .string ByteArray.empty], []⟩ 8 (by kernel_rfl) (by kernel_rfl) (by kernel_rfl) (by kernel_rfl)) ?_
  intro W base args ds gs before hval0 hW hcnd _
  have hval : ∀ (j : Nat) t v, Try.f6.params[j]? = some t → args[j]? = some v → Value.okWide Try.prog W .any base t v := hval0
  have hW' := hW
  obtain ⟨p, q, hA0, hV, rfl, hfz, hnd⟩ := hW
  have hA : DataW.TrodAll enc Try.prog W 0 (fun _ => true) true Try.f6.params.toList args.toList ds p := hA0
  rw [Try.params6] at hA hval
  obtain ⟨v0, vs0, d0, ds0, p0, q0, hargs, rfl, rfl, h0, r0⟩ := trodAll_cons hA
  obtain ⟨v1, vs1, d1, ds1, p1, q1, rfl, rfl, rfl, h1, r1⟩ := trodAll_cons r0
  obtain ⟨v2, vs2, d2, ds2, p2, q2, rfl, rfl, rfl, h2, r2⟩ := trodAll_cons r1
  obtain ⟨rfl, rfl, rfl⟩ := trodAll_nil r2
  obtain rfl : args = #[v0, v1, v2] := by cases args; simp_all
  obtain ⟨rfl, rfl⟩ := trodVars_none hV
  obtain ⟨a0, len0, cap0, rfl⟩ := okWide_slice Try.underlying26 (hval 0 26 v0 rfl rfl)
  have k0 := h0
  have lt0 : ∀ x ∈ p0, x.block < W.heap.size := by obtain ⟨m, hm⟩ := k0; exact DataW.trod_lt m _ _ _ hm
  obtain ⟨z0, e0, n0, w0⟩ : ∃ ss : List ByteArray, ss.length = len0 ∧ (a0 = none → cap0 = 0 ∧ ss = []) ∧ Came W a0 ss := by
    obtain ⟨fuel, hf⟩ := h0
    rcases open_strings Try.underlying26 Try.underlying9 (by kernel_rfl) hf with ⟨hcs, _⟩ | ⟨x, l, c, ss, hcs, _, hl, hm, hz, _, hcell, hwz⟩
    · simp [Value.cells] at hcs
      obtain ⟨rfl, rfl, rfl⟩ := hcs
      exact ⟨[], rfl, fun _ => ⟨rfl, rfl⟩, fun h => absurd h (by simp)⟩
    · simp [Value.cells] at hcs
      obtain ⟨rfl, rfl, rfl⟩ := hcs
      obtain ⟨g1, g2⟩ := came_of hl (by simpa using hz) hcell
      exact ⟨_, g1, fun h => (by cases h), g2⟩
  subst e0
  obtain ⟨a1, rfl, rfl, rfl, w1⟩ := open_string Try.underlying9 (hval 1 9 v1 rfl rfl) h1
  obtain ⟨a2, rfl, rfl, rfl, w2⟩ := open_string Try.underlying9 (hval 2 9 v2 rfl rfl) h2
  clear hA0 hval0
  refine (walk a0 cap0 z0 a1 a2 W n0 w0).mono fun e W' ⟨he, bel⟩ => ?_
  subst he
  exact ⟨_, rfl, _, _, _, [], _, [], hW', trodAll_mk1 (shut_bool Try.underlying4 _), (trodAll_cons_mk (Below.trod laidOut (by kernel_rfl) (of_decide_eq_true (by kernel_rfl)) k0 bel lt0) (trodAll_cons_mk (shut_string Try.underlying9 w1) (trodAll_cons_mk (shut_string Try.underlying9 w2) trodAll_mk0))), rfl, bel.frame _, fun h => by cases h⟩

theorem over : Rows.fnWithoutCommutesAndSettlesRow.holds Try.pinned (OpenSpec.ofChange Rows.fnWithoutCommutesAndSettlesSpec) :=
  OpenClaim.holds_of_wide 6 Try.f6 rfl rfl rfl rfl rfl rfl rfl ⟨rfl, rfl, rfl, rfl, rfl⟩ rfl rfl rfl rfl rfl (by kernel_rfl) Try.func6 (by kernel_rfl)
    (of_decide_eq_true (by kernel_rfl)) (by unfold Func.isWrapper; first | (rw [if_pos (by decide +kernel)]; kernel_rfl) | (rw [if_neg (by decide +kernel)]; exact ⟨rfl, rfl⟩))
    (fun os started H enc _ => lifted os started H enc)

/-- THE STATEMENT -/
theorem proved : Rows.FnWithoutCommutesAndSettlesSaid := over
end Go.Proofs.Qxb6617218a.fnWithoutCommutesAndSettles
