/-
  Proof of 'Rows.FnWithoutOverConcatIsFilterSaid'. The row's step is the guide's own frame (proof-skeleton.mjs, a law over slices), turned to slices of strings.
-/
import Derived.Test.Qxb6617218aWoBase
import Derived.Deep.DeepCutAuto
namespace Go.Proofs.Qxb6617218a.wo
open Go.ChangeShapes Go.WideShapes Go.ChangeAt Go.RowKit
set_option linter.unusedVariables false

theorem bytes11_calls (a : Option Addr) (cap : Nat) (ss : List ByteArray) (a2 : Option Addr) (cap2 : Nat) (tt : List ByteArray) (l : ByteArray) (w : World) (hc : Came w a ss) (hd : Came w a2 tt) :
    Calls Try.prog 11 #[.slice a ss.length cap, .slice a2 tt.length cap2, .string l] w fun e w' => IsB e ∧ w = w' := by
  by_cases hbig : 1048576 < (ss.length : Int)
  · go_enter Try.func11, Try.ntmps11
    go_wp2
    go_ret
    exact ⟨.inr rfl, rfl⟩
  go_enter Try.func11, Try.ntmps11
  go_wp2
  go_loop [7, 8] (fun c i => ∃ k x : Nat, k ≤ ss.length ∧ i = .int .i64 k ∧ c = .int .i64 x ∧ x ≤ 1048576) (fun _ i => ss.length - (intOf i).toNat)
  case atStart => exact ⟨0, ss.length, Nat.zero_le _, rfl, rfl, by omega⟩
  case round =>
    obtain ⟨k, x, hk, rfl, rfl, hx⟩ := hrel
    by_cases hlt : k < ss.length
    · obtain ⟨b, off, rfl, hb, hcell⟩ := hc (by omega)
      have hck := hcell k hlt
      clear hcell
      go_wp2
      all_goals first
        | (go_ret; exact ⟨.inr rfl, rfl⟩)
        | (go_round
           case rel => exact ⟨k + 1, x + ss[k].size, by omega, by go_num, by go_num, by omega⟩
           case measure => simp [intOf]; omega)
    · by_cases hbig2 : 1048576 < (tt.length : Int)
      · go_wp2
        all_goals (go_ret; exact ⟨.inr rfl, rfl⟩)
      by_cases hbig3 : 1048576 < (x : Int) + tt.length
      · go_wp2
        all_goals (go_ret; exact ⟨.inr rfl, rfl⟩)
      go_wp2
      go_loop [7, 9] (fun c i => ∃ k x : Nat, k ≤ tt.length ∧ i = .int .i64 k ∧ c = .int .i64 x ∧ x ≤ 1048576) (fun _ i => tt.length - (intOf i).toNat)
      case atStart => exact ⟨0, x + tt.length, Nat.zero_le _, rfl, by go_num, by omega⟩
      case round =>
        clear hlt hk hx
        obtain ⟨k, x, hk, rfl, rfl, hx⟩ := hrel
        by_cases hlt : k < tt.length
        · obtain ⟨b, off, rfl, hb, hcell⟩ := hd (by omega)
          have hck := hcell k hlt
          clear hcell
          go_wp2
          all_goals first
            | (go_ret; exact ⟨.inr rfl, rfl⟩)
            | (go_round
               case rel => exact ⟨k + 1, x + tt[k].size, by omega, by go_num, by go_num, by omega⟩
               case measure => simp [intOf]; omega)
        · go_wp2
          all_goals first | (go_ret; exact ⟨.inr rfl, rfl⟩) | (go_ret; exact ⟨.inl rfl, rfl⟩)

theorem came_of_row {w : World} {a : Option Addr} {n c : Nat} {ss : List ByteArray} (h : Row w (.slice a n c) ss) : Came w a ss := by
  intro h0
  rcases h with ⟨_, rfl⟩ | ⟨b, off, cap, e, hb, hc⟩
  · exact absurd h0 (by simp)
  · cases e; exact ⟨b, off, rfl, hb, hc⟩
theorem Came.below {w w' : World} {a : Option Addr} {ss : List ByteArray} (h : Came w a ss) (hb : Below w.heap.size w w') : Came w' a ss := by
  intro h0
  obtain ⟨b, off, rfl, hlt, hc⟩ := h h0
  exact ⟨b, off, rfl, Nat.lt_of_lt_of_le hlt hb.size, fun i hi => (hb.cell (p := ⟨b, off + i, none⟩) hlt).trans (hc i hi)⟩
theorem Row.shape {w : World} {v : Value} {ss : List ByteArray} (h : Row w v ss) : ∃ a c, v = .slice a ss.length c := by
  rcases h with ⟨rfl, rfl⟩ | ⟨b, off, cap, rfl, _, _⟩
  · exact ⟨none, 0, rfl⟩
  · exact ⟨_, _, rfl⟩
theorem wl_append (l : ByteArray) (ss tt : List ByteArray) : wl l (ss ++ tt) = wl l ss ++ wl l tt := List.filter_append _ _
theorem getD_left (A B : List ByteArray) (k : Nat) (h : k < A.length) : (A ++ B).getD k ByteArray.empty = A.getD k ByteArray.empty := by
  simp [List.getD_eq_getElem?_getD, List.getElem?_append_left h]
theorem getD_right (A B : List ByteArray) (k : Nat) : (A ++ B).getD (A.length + k) ByteArray.empty = B.getD k ByteArray.empty := by
  simp [List.getD_eq_getElem?_getD, List.getElem?_append_right]
theorem wl_self (l : ByteArray) (ss : List ByteArray) : wl l ss = ss.filter (p2 l l) := List.filter_congr (fun x _ => by simp [p2])
theorem below_of_made {w w1 : World} (h : w.grownBy w1 none) : Below w.heap.size w w1 := (Below.refl _ _).grown h (Nat.le_refl _) (by simp)

set_option maxRecDepth 100000 in
set_option maxHeartbeats 4000000 in
theorem law5 (a0 : Option Addr) (cap0 : Nat) (ss : List ByteArray) (a1 : Option Addr) (cap1 : Nat) (tt : List ByteArray) (l : ByteArray) (w : World)
    (n0 : a0 = none → cap0 = 0 ∧ ss = []) (w0 : Came w a0 ss) (n1 : a1 = none → cap1 = 0 ∧ tt = []) (w1 : Came w a1 tt) :
    Calls Try.prog 5 #[.slice a0 ss.length cap0, .slice a1 tt.length cap1, .string l] w fun e w' => e = .returned (.bool true) ∧ Below w.heap.size w w' := by
  obtain ⟨i0, hi, hz0, hz1, hz2⟩ := info_parts Try.info9
  have hnq := fun (w : World) (a : Option Addr) (n c n' c' : Nat) => run_neq_slice_nil_any (P := Try.prog) w 26 9 a n c n' c' Try.underlying26
  have N0 : Hid (a0 = none → cap0 = 0 ∧ ss = []) := n0
  have N1 : Hid (a1 = none → cap1 = 0 ∧ tt = []) := n1
  clear n0 n1
  go_enter Try.func5, Try.ntmps5
  go_wp2_with fail
  refine (bytes11_calls _ _ _ _ _ _ _ _ w0 w1).mono ?_
  rintro e w' ⟨hB, rfl⟩
  rcases hB with rfl | rfl
  rotate_left
  · go_wp2_with fail
    go_ret
    exact ⟨rfl, Below.refl _ _⟩
  by_cases h1 : 65536 < (ss.length : Int)
  · go_wp2_with fail
    go_ret
    exact ⟨rfl, Below.refl _ _⟩
  by_cases h2 : 65536 < (tt.length : Int)
  · go_wp2_with fail
    go_ret
    exact ⟨rfl, Below.refl _ _⟩
  by_cases h3 : 1048576 < (l.size : Int)
  · go_wp2_with fail
    go_ret
    exact ⟨rfl, Below.refl _ _⟩
  go_upto_if 39 with (fail)

  go_cut [0] (fun v wr => ∃ a c, v = .slice a ss.length c ∧ Row wr v ss ∧ Below w.heap.size w wr)
  case first =>
    cases a0 with
    | none =>
      obtain ⟨rfl, rfl⟩ := N0.out rfl
      go_wp2_with fail
      go_meet
      case rel => exact ⟨none, 0, rfl, .inl ⟨rfl, rfl⟩, Below.refl _ _⟩
    | some x =>
      go_wp2_with (at_make; refine wpList_make_full _ rfl _ _ 26 rfl w.heap.size 9 i0 (.string ByteArray.empty) 1 Try.underlying26 hi hz0 hz1 .i64 .i64 _ _ ss.length rfl rfl rfl rfl ?_ ?_ (Nat.le_refl _) ?_)
      · rw [hz2]; omega
      · unfold maxLen; omega
      intro x1 hown1 hgrow1
      obtain ⟨cur, hcur, hcl⟩ := made_cur hown1
      have hb1 : Below w.heap.size w x1 := below_of_made hgrow1
      clear hown1 hgrow1
      generalize hg : w.heap.size = g at *
      generalize hcs : ss.map Value.string = cs at *
      have hcsl : cs.length = ss.length := by rw [← hcs]; simp
      have HCS : Hid (ss.map Value.string = cs) := hcs
      have HG : Hid (w.heap.size = g) := hg
      clear hcs hg
      go_wp2_with (refine wpList_copy_splice rfl (.tmp 43) (.tmp 44) 26 26 rfl 9 Try.underlying26 (by kernel_rfl) _ _ _ _ _ _ rfl rfl g 0 cur 9 hcur cs ?_ ?_ ?_ ?_ g w hb1 (Nat.le_refl _) ?_)
      · rw [hcsl]; exact (Nat.min_self _).symm
      · intro h0 j v hv
        obtain ⟨ad, e, hsrc⟩ := came_src w0 (by rw [HG.out]; exact hb1) h0
        cases e
        exact hsrc j v (by rw [HCS.out]; exact hv)
      · rw [Nat.zero_add, hcsl, hcl]; exact Nat.le_refl _
      · rw [← HCS.out]; exact strs_oneCell ss
      intro x2 HG2 hb2
      have hrow : Row x2 (.slice (some ⟨g, 0, none⟩) ss.length ss.length) ss := row_spliced (cur := cur) (by rw [HCS.out]; exact HG2.out) hcl _
      have hb2' : Below w.heap.size w x2 := by rw [HG.out]; exact hb2
      clear hcur HG2 hb1 hcl hcsl HCS HG
      go_wp2_with fail
      go_meet
      case rel => exact ⟨_, _, rfl, hrow, hb2⟩
  case rest =>
    obtain ⟨a, c, rfl, hra, hba⟩ := hcut
    have w1' := w1.below hba
    clear w0 w1 N0
    go_upto_if 48 with (fail)
    go_cut [1] (fun v wr => ∃ a' c', v = .slice a' tt.length c' ∧ Row wr v tt ∧ Row wr (.slice a ss.length c) ss ∧ Below w.heap.size w wr)
    case first =>
      cases a1 with
      | none =>
        obtain ⟨rfl, rfl⟩ := N1.out rfl
        go_wp2_with fail
        go_meet
        case rel => exact ⟨none, 0, rfl, .inl ⟨rfl, rfl⟩, hra, hba⟩
      | some x =>
        go_wp2_with (at_make; refine wpList_make_full _ rfl _ _ 26 rfl wc.heap.size 9 i0 (.string ByteArray.empty) 1 Try.underlying26 hi hz0 hz1 .i64 .i64 _ _ tt.length rfl rfl rfl rfl ?_ ?_ (Nat.le_refl _) ?_)
        · rw [hz2]; omega
        · unfold maxLen; omega
        intro x1 hown1 hgrow1
        obtain ⟨cur, hcur, hcl⟩ := made_cur hown1
        have hb1 : Below wc.heap.size wc x1 := below_of_made hgrow1
        clear hown1 hgrow1
        generalize hg : wc.heap.size = g at *
        generalize hcs : tt.map Value.string = cs at *
        have hcsl : cs.length = tt.length := by rw [← hcs]; simp
        have HCS : Hid (tt.map Value.string = cs) := hcs
        have HG : Hid (wc.heap.size = g) := hg
        clear hcs hg
        go_wp2_with (refine wpList_copy_splice rfl (.tmp 52) (.tmp 53) 26 26 rfl 9 Try.underlying26 (by kernel_rfl) _ _ _ _ _ _ rfl rfl g 0 cur 9 hcur cs ?_ ?_ ?_ ?_ g wc hb1 (Nat.le_refl _) ?_)
        · rw [hcsl]; exact (Nat.min_self _).symm
        · intro h0 j v hv
          obtain ⟨ad, e, hsrc⟩ := came_src w1' (by rw [HG.out]; exact hb1) h0
          cases e
          exact hsrc j v (by rw [HCS.out]; exact hv)
        · rw [Nat.zero_add, hcsl, hcl]; exact Nat.le_refl _
        · rw [← HCS.out]; exact strs_oneCell tt
        intro x2 HG2 hb2
        have hrow : Row x2 (.slice (some ⟨g, 0, none⟩) tt.length tt.length) tt := row_spliced (cur := cur) (by rw [HCS.out]; exact HG2.out) hcl _
        have hb2' : Below wc.heap.size wc x2 := by rw [HG.out]; exact hb2
        clear hcur HG2 hb1 hcl hcsl HCS HG
        go_wp2_with fail
        go_meet
        case rel => exact ⟨_, _, rfl, hrow, hra.below hb2', below_step hba hb2'⟩
    case rest =>
      clear hra hba w1' N1
      obtain ⟨a', c', rfl, hrb, hra, hba⟩ := hcut
      by_cases h4 : 1048576 < (l.size : Int) + 16 * ss.length + 16 * tt.length
      · go_wp2_with fail
        go_ret
        exact ⟨rfl, hba⟩
      go_wp2_with fail
      go_loop [9, 10] (fun c i => ∃ (k : Nat) (x : Int), k ≤ ss.length ∧ i = .int .i64 k ∧ c = .int .i64 x) (fun _ i => ss.length - (intOf i).toNat)
      case atStart => exact ⟨0, _, Nat.zero_le _, rfl, rfl⟩
      case round =>
        obtain ⟨k, x, hk, rfl, rfl⟩ := hrel
        by_cases hlt : k < ss.length
        · obtain ⟨b, off, rfl, hb, hcell⟩ := (came_of_row hra) (by omega)
          have hck := hcell k hlt
          clear hcell
          go_wp2_with fail
          all_goals first
            | (go_ret; exact ⟨rfl, hba⟩)
            | (go_round
               case rel => exact ⟨k + 1, _, by omega, by go_num, rfl⟩
               case measure => simp [intOf]; omega)
        go_wp2_with fail
        clear hlt hk
        go_loop [9, 11] (fun c i => ∃ (k : Nat) (x : Int), k ≤ tt.length ∧ i = .int .i64 k ∧ c = .int .i64 x) (fun _ i => tt.length - (intOf i).toNat)
        case atStart => exact ⟨0, _, Nat.zero_le _, rfl, rfl⟩
        case round =>
          obtain ⟨k, x, hk, rfl, rfl⟩ := hrel
          by_cases hlt : k < tt.length
          · obtain ⟨b, off, rfl, hb, hcell⟩ := (came_of_row hrb) (by omega)
            have hck := hcell k hlt
            clear hcell
            go_wp2_with fail
            all_goals first
              | (go_ret; exact ⟨rfl, hba⟩)
              | (go_round
                 case rel => exact ⟨k + 1, _, by omega, by go_num, rfl⟩
                 case measure => simp [intOf]; omega)
          go_wp2_with (at_make; refine wpList_make_own _ rfl _ _ 26 rfl wc.heap.size 9 i0 (.string ByteArray.empty) 1 Try.underlying26 hi hz0 hz1 .i64 .i64 _ (ss.length + tt.length) rfl rfl ?_ ?_ ?_ (Nat.le_refl _) ?_)
          · first | omega | (rw [hz2]; omega)
          · unfold maxLen; omega
          clear hlt hk
          intro wd hown0 hgrow0
          have hb0 : Below wc.heap.size wc wd := below_of_made hgrow0
          clear hgrow0
          have hca := came_of_row hra
          have hcb := came_of_row hrb
          go_wp2_with fail
          go_loopw [12, 13] (fun v i wr => ∃ k : Nat, k ≤ ss.length ∧ i = .int .i64 k ∧ wr.ownsRow wc.heap.size 9 1 v (ss.take k).length ((ss.take k).map Value.string) ∧ Below wc.heap.size wc wr) (fun _ i _ => ss.length - (intOf i).toNat)
          case atStart => exact ⟨0, Nat.zero_le _, rfl, hown0, hb0⟩
          case round =>
            clear hown0 hb0
            obtain ⟨k, hk, rfl, hown, hnx⟩ := hrel
            by_cases hlt : k < ss.length
            · obtain ⟨b, off, rfl, hb, hcell⟩ := (hca.below hnx) (by omega)
              have hck := hcell k hlt
              have HK : Hid (ss.take (k + 1) = ss.take k ++ [ss[k]]) := List.take_succ_eq_append_getElem hlt
              have hle : (ss.take k).length ≤ k := List.length_take_le _ _
              clear hcell hca hcb
              generalize ss.take k = K at *
              go_wp2_with (at_builtin; refine wpList_append_own _ rfl _ _ 26 rfl wc.heap.size 9 i0 (.string ByteArray.empty) 1 16 Try.underlying26 hi hz0 hz1 hz2 rfl (by decide) _ _ _ rfl (hown.alloc _) ⟨wr.heap.size, 0, none⟩ 1 1 [.string ss[k]] rfl rfl ?c1 ?c2 ?c3 ?c4 ?c5 ?_)
              case c1 => exact cell_one_new _ _ _
              case c2 => intro u hu; simp at hu; subst hu; rfl
              case c3 => unfold maxLen; omega
              case c4 => omega
              case c5 => have := hnx.size; simp; omega
              intro v' w1 hown' hgrow _
              have R := own_keep (K' := ss.take (k + 1)) HK.out hnx (by have := hnx.size; omega) hown hown' hgrow
              clear hown' hgrow hown hck
              go_wp2_with fail
              go_roundw
              case rel => exact ⟨k + 1, by omega, by go_num, R.1, R.2⟩
              case measure => simp [intOf]; omega
            · have hown1 : wr.ownsRow wc.heap.size 9 1 u12 ss.length (ss.map Value.string) := by
                rw [List.take_of_length_le (by omega)] at hown; exact hown
              clear hown
              go_wp2_with fail
              clear hlt hk
              go_loopw [12, 14] (fun v i wr => ∃ k : Nat, k ≤ tt.length ∧ i = .int .i64 k ∧ wr.ownsRow wc.heap.size 9 1 v (ss ++ tt.take k).length ((ss ++ tt.take k).map Value.string) ∧ Below wc.heap.size wc wr) (fun _ i _ => tt.length - (intOf i).toNat)
              case atStart => exact ⟨0, Nat.zero_le _, rfl, by rw [List.take_zero, List.append_nil]; exact hown1, hnx⟩
              case round =>
                clear hown1 hnx
                obtain ⟨k, hk, rfl, hown, hnx⟩ := hrel
                by_cases hlt : k < tt.length
                · obtain ⟨b, off, rfl, hb, hcell⟩ := (hcb.below hnx) (by omega)
                  have hck := hcell k hlt
                  have HK : Hid (ss ++ tt.take (k + 1) = (ss ++ tt.take k) ++ [tt[k]]) := by
                    show ss ++ tt.take (k + 1) = (ss ++ tt.take k) ++ [tt[k]]
                    rw [List.take_succ_eq_append_getElem hlt, List.append_assoc]
                  have hle : (ss ++ tt.take k).length ≤ ss.length + k := by rw [List.length_append]; have := List.length_take_le k tt; omega
                  clear hcell hca hcb
                  generalize ss ++ tt.take k = K at *
                  go_wp2_with (at_builtin; refine wpList_append_own _ rfl _ _ 26 rfl wc.heap.size 9 i0 (.string ByteArray.empty) 1 16 Try.underlying26 hi hz0 hz1 hz2 rfl (by decide) _ _ _ rfl (hown.alloc _) ⟨wr.heap.size, 0, none⟩ 1 1 [.string tt[k]] rfl rfl ?d1 ?d2 ?d3 ?d4 ?d5 ?_)
                  case d1 => exact cell_one_new _ _ _
                  case d2 => intro u hu; simp at hu; subst hu; rfl
                  case d3 => unfold maxLen; omega
                  case d4 => omega
                  case d5 => have := hnx.size; simp; omega
                  intro v' w1 hown' hgrow _
                  have R := own_keep (K' := ss ++ tt.take (k + 1)) HK.out hnx (by have := hnx.size; omega) hown hown' hgrow
                  clear hown' hgrow hown hck
                  go_wp2_with fail
                  go_roundw
                  case rel => exact ⟨k + 1, by omega, by go_num, R.1, R.2⟩
                  case measure => simp [intOf]; omega
                · have rab : Row wr u12 (ss ++ tt) := by
                    rw [List.take_of_length_le (by omega)] at hown; exact row_of_own hown
                  have ra0 := hra.below hnx
                  have rb0 := hrb.below hnx
                  have hbr : Below w.heap.size w wr := below_step hba hnx
                  clear hown hca hcb hra hrb hba hnx hk
                  have hn : (ss ++ tt).length ≤ 1048576 := by rw [List.length_append]; omega
                  have hns : ss.length ≤ 1048576 := by omega
                  have hnt : tt.length ≤ 1048576 := by omega
                  go_wp2_with fail
                  refine (without_calls _ (ss ++ tt) l _ rab hn).mono ?_
                  rintro e w3 ⟨vr, rfl, rr, b3⟩
                  have rab3 := rab.below b3
                  have ra3 := ra0.below b3
                  have rb3 := rb0.below b3
                  clear rab ra0 rb0
                  go_wp2_with fail
                  refine (without_calls _ ss l _ ra3 hns).mono ?_
                  rintro e w4 ⟨va, rfl, rra, b4⟩
                  have rab4 := rab3.below b4
                  have rb4 := rb3.below b4
                  have rr4 := rr.below b4
                  clear rab3 ra3 rb3 rr
                  go_wp2_with fail
                  refine (without_calls _ tt l _ rb4 hnt).mono ?_
                  rintro e w5 ⟨vb, rfl, rrb, b5⟩
                  have rab5 := rab4.below b5
                  have rr5 := rr4.below b5
                  have rra5 := rra.below b5
                  clear rab4 rb4 rr4 rra
                  have hb5 : Below w.heap.size w w5 := below_step (below_step (below_step hbr b3) b4) b5
                  clear b3 b4 b5 hbr
                  have FR : Hid (wl l ss ++ wl l tt = (ss ++ tt).filter (p2 l l)) := by
                    show wl l ss ++ wl l tt = (ss ++ tt).filter (p2 l l)
                    rw [← wl_append, wl_self]
                  rw [wl_append] at rr5
                  have hA := Nat.le_trans (wl_le l ss) hns
                  have hB := Nat.le_trans (wl_le l tt) hnt
                  generalize wl l ss = A at *
                  generalize wl l tt = B at *
                  obtain ⟨xr, cr, rfl⟩ := rr5.shape
                  obtain ⟨xa, ca, rfl⟩ := rra5.shape
                  obtain ⟨xb, cb, rfl⟩ := rrb.shape
                  go_wp2_with fail
                  go_loopw [18] (fun i wr => ∃ k n : Nat, k ≤ A.length ∧ i = .int .i64 k ∧ wr = w5.drewN n) (fun i _ => A.length - (intOf i).toNat)
                  case atStart => exact ⟨0, 0, Nat.zero_le _, rfl, rfl⟩
                  case round =>
                    clear hlt
                    obtain ⟨k, n, hk, rfl, rfl⟩ := hrel
                    by_cases hlt : k < A.length
                    · obtain ⟨br, offr, rfl, _, hcr⟩ := (came_of_row rr5) (by rw [List.length_append]; omega)
                      obtain ⟨bx, offx, rfl, _, hcx⟩ := (came_of_row rra5) (by omega)
                      have hcr' : w5.cell? ⟨br, offr + k, none⟩ = some (.string (A.getD k ByteArray.empty)) := by
                        rw [hcr k (by rw [List.length_append]; omega), getD_left A B k hlt]
                      have hcx' := hcx k hlt
                      clear hcr hcx
                      go_wp2_with fail
                      go_quiet (fail)
                      go_wp2_with fail
                      go_roundw
                      case rel => exact ⟨k + 1, _, by omega, by go_num, rfl⟩
                      case measure => simp [intOf]; omega
                    go_wp2_with fail
                    go_loopw [19] (fun i wr => ∃ k n : Nat, k ≤ B.length ∧ i = .int .i64 k ∧ wr = w5.drewN n) (fun i _ => B.length - (intOf i).toNat)
                    case atStart => exact ⟨0, _, Nat.zero_le _, rfl, rfl⟩
                    case round =>
                      clear hlt hk
                      obtain ⟨k, n, hk, rfl, rfl⟩ := hrel
                      by_cases hlt : k < B.length
                      · obtain ⟨br, offr, rfl, _, hcr⟩ := (came_of_row rr5) (by rw [List.length_append]; omega)
                        obtain ⟨bx, offx, rfl, _, hcx⟩ := (came_of_row rrb) (by omega)
                        have hcr' : w5.cell? ⟨br, offr + (A.length + k), none⟩ = some (.string (B.getD k ByteArray.empty)) := by
                          rw [hcr (A.length + k) (by rw [List.length_append]; omega), getD_right A B k]
                        have hcx' := hcx k hlt
                        clear hcr hcx
                        go_wp2_with fail
                        go_quiet (fail)
                        go_wp2_with fail
                        go_roundw
                        case rel => exact ⟨k + 1, _, by omega, by go_num, rfl⟩
                        case measure => simp [intOf]; omega
                      have rr6 : Row w5 (.slice xr (A.length + B.length) cr) (A ++ B) := by rw [List.length_append] at rr5; exact rr5
                      go_wp2_with fail
                      refine (filter_calls _ _ (ss ++ tt) (A ++ B) l l _ FR.out hn (rr6.below (below_drewN _ _)) (rab5.below (below_drewN _ _))).mono ?_
                      rintro e wq ⟨rfl, n4, rfl⟩
                      go_wp2_with fail
                      go_ret
                      exact ⟨rfl, below_step hb5 (below_drewN _ _)⟩
end Go.Proofs.Qxb6617218a.wo
namespace Go.Proofs.Qxb6617218a.fnWithoutOverConcatIsFilter
open Go.ChangeShapes Go.WideShapes Go.ChangeAt Go.RowKit
open Go.ChangeMaps (open_string shut_string)
open Go.Proofs.Qxb6617218a.wo
set_option linter.unusedVariables false

theorem walk (a0 : Option Addr) (cap0 : Nat) (z0 : List ByteArray) (a1 : Option Addr) (cap1 : Nat) (z1 : List ByteArray) (a2 : ByteArray) (w : World)
    (n0 : a0 = none → cap0 = 0 ∧ z0 = []) (w0 : Came w a0 z0) (n1 : a1 = none → cap1 = 0 ∧ z1 = []) (w1 : Came w a1 z1) :
    Calls Try.prog 5 #[.slice a0 z0.length cap0, .slice a1 z1.length cap1, .string a2] w fun e w' => e = .returned (.bool true) ∧ Below w.heap.size w w' :=
  law5 a0 cap0 z0 a1 cap1 z1 a2 w n0 w0 n1 w1

/-! ### THE ROW's STEP -/
set_option maxRecDepth 100000 in
theorem lifted (os : Os) (started : os.Started) (H : Type) (enc : TypeId × Value → H) :
    ReturnsInHanded {} Try.checked os 5 .any (Rows.fnWithoutOverConcatIsFilterSpec.pre6 enc Try.prog Try.f5 Rows.fnWithoutOverConcatIsFilterRow.domain false) (Rows.fnWithoutOverConcatIsFilterSpec.post enc Try.prog Try.f5 false true false false) := by
  refine returnsInHanded_of_change (C := Try.checked) own started (by kernel_rfl) Try.func5
    (ChangeSpec.witness6 (enc := enc) (C := Try.checked) false ⟨#[], #[.slice none 0 0, .slice none 0 0, .string ByteArray.empty], []⟩ 8 (by kernel_rfl) (by kernel_rfl) (by kernel_rfl) (by kernel_rfl)) ?_
  intro W base args ds gs before hval0 hW hcnd _
  have hval : ∀ (j : Nat) t v, Try.f5.params[j]? = some t → args[j]? = some v → Value.okWide Try.prog W .any base t v := hval0
  have hW' := hW
  obtain ⟨p, q, hA0, hV, rfl, hfz, hnd⟩ := hW
  have hA : DataW.TrodAll enc Try.prog W 0 (fun _ => true) true Try.f5.params.toList args.toList ds p := hA0
  rw [Try.params5] at hA hval
  obtain ⟨v0, vs0, d0, ds0, p0, q0, hargs, rfl, rfl, h0, r0⟩ := trodAll_cons hA
  obtain ⟨v1, vs1, d1, ds1, p1, q1, rfl, rfl, rfl, h1, r1⟩ := trodAll_cons r0
  obtain ⟨v2, vs2, d2, ds2, p2, q2, rfl, rfl, rfl, h2, r2⟩ := trodAll_cons r1
  obtain ⟨rfl, rfl, rfl⟩ := trodAll_nil r2
  obtain rfl : args = #[v0, v1, v2] := by cases args; simp_all
  obtain ⟨rfl, rfl⟩ := trodVars_none hV
  obtain ⟨a0, len0, cap0, rfl⟩ := okWide_slice Try.underlying26 (hval 0 26 v0 rfl rfl)
  have k0 := h0
  have lt0 : ∀ x ∈ p0, x.block < W.heap.size := by obtain ⟨m, hm⟩ := k0; exact DataW.trod_lt m _ _ _ hm
  obtain ⟨z0, e0, n0, w0⟩ : ∃ ss : List ByteArray, ss.length = len0 ∧ (a0 = none → cap0 = 0 ∧ ss = []) ∧ Came W a0 ss := by
    obtain ⟨fuel, hf⟩ := h0
    rcases open_strings Try.underlying26 Try.underlying9 (by kernel_rfl) hf with ⟨hcs, _⟩ | ⟨x, l, c, ss, hcs, _, hl, hm, hz, _, hcell, hwz⟩
    · simp [Value.cells] at hcs
      obtain ⟨rfl, rfl, rfl⟩ := hcs
      exact ⟨[], rfl, fun _ => ⟨rfl, rfl⟩, fun h => absurd h (by simp)⟩
    · simp [Value.cells] at hcs
      obtain ⟨rfl, rfl, rfl⟩ := hcs
      obtain ⟨g1, g2⟩ := came_of hl (by simpa using hz) hcell
      exact ⟨_, g1, fun h => (by cases h), g2⟩
  subst e0
  obtain ⟨a1, len1, cap1, rfl⟩ := okWide_slice Try.underlying26 (hval 1 26 v1 rfl rfl)
  have k1 := h1
  have lt1 : ∀ x ∈ p1, x.block < W.heap.size := by obtain ⟨m, hm⟩ := k1; exact DataW.trod_lt m _ _ _ hm
  obtain ⟨z1, e1, n1, w1⟩ : ∃ ss : List ByteArray, ss.length = len1 ∧ (a1 = none → cap1 = 0 ∧ ss = []) ∧ Came W a1 ss := by
    obtain ⟨fuel, hf⟩ := h1
    rcases open_strings Try.underlying26 Try.underlying9 (by kernel_rfl) hf with ⟨hcs, _⟩ | ⟨x, l, c, ss, hcs, _, hl, hm, hz, _, hcell, hwz⟩
    · simp [Value.cells] at hcs
      obtain ⟨rfl, rfl, rfl⟩ := hcs
      exact ⟨[], rfl, fun _ => ⟨rfl, rfl⟩, fun h => absurd h (by simp)⟩
    · simp [Value.cells] at hcs
      obtain ⟨rfl, rfl, rfl⟩ := hcs
      obtain ⟨g1, g2⟩ := came_of hl (by simpa using hz) hcell
      exact ⟨_, g1, fun h => (by cases h), g2⟩
  subst e1
  obtain ⟨a2, rfl, rfl, rfl, w2⟩ := open_string Try.underlying9 (hval 2 9 v2 rfl rfl) h2
  clear hA0 hval0
  refine (walk a0 cap0 z0 a1 cap1 z1 a2 W n0 w0 n1 w1).mono fun e W' ⟨he, bel⟩ => ?_
  subst he
  exact ⟨_, rfl, _, _, _, [], _, [], hW', trodAll_mk1 (shut_bool Try.underlying4 _), (trodAll_cons_mk (Below.trod laidOut (by kernel_rfl) (of_decide_eq_true (by kernel_rfl)) k0 bel lt0) (trodAll_cons_mk (Below.trod laidOut (by kernel_rfl) (of_decide_eq_true (by kernel_rfl)) k1 bel lt1) (trodAll_cons_mk (shut_string Try.underlying9 w2) trodAll_mk0))), rfl, bel.frame _, fun h => by cases h⟩

theorem over : Rows.fnWithoutOverConcatIsFilterRow.holds Try.pinned (OpenSpec.ofChange Rows.fnWithoutOverConcatIsFilterSpec) :=
  OpenClaim.holds_of_wide 5 Try.f5 rfl rfl rfl rfl rfl rfl rfl ⟨rfl, rfl, rfl, rfl, rfl⟩ rfl rfl rfl rfl rfl (by kernel_rfl) Try.func5 (by kernel_rfl)
    (of_decide_eq_true (by kernel_rfl)) (by unfold Func.isWrapper; first | (rw [if_pos (by decide +kernel)]; kernel_rfl) | (rw [if_neg (by decide +kernel)]; exact ⟨rfl, rfl⟩))
    (fun os started H enc _ => lifted os started H enc)

/-- THE STATEMENT -/
theorem proved : Rows.FnWithoutOverConcatIsFilterSaid := over
end Go.Proofs.Qxb6617218a.fnWithoutOverConcatIsFilter
