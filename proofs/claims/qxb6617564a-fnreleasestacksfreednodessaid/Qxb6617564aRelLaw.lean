/-
  The walk of FnReleaseStacksFreedNodes.
-/
import Derived.Test.Qxb6617564aRelPlain
import Derived.Deep.DeepCutAuto
namespace Go.Proofs.Qxb6617564a.rel
open Go.ChangeShapes Go.WideShapes Go.ChangeAt Go.RowKit
set_option linter.unusedVariables false
theorem Try.info4 : (Try.prog.info? 4).map (fun i => (i.zero, i.size, i.bytes)) = some (some (.bool false), 1, 1) := by kernel_rfl

theorem inv_step {w : World} {F G N : Nat} {root spare n total : Int} {ns : Nat → Nd} {tz : List Int} {k t T : Nat} (hg : Good tz N T) (hk : k < T) (htz : tzAt tz k = t)
    (h : Inv w F G N root t (wrap64 (nk n k - 1)) (wrap64 (tk ns total tz k - wrap64 ((stk ns spare tz k t).e - (stk ns spare tz k t).s))) (upd (stk ns spare tz k) t ⟨0, 0, 0, 0, sp spare tz k, 0⟩)) :
    Inv w F G N root (sp spare tz (k + 1)) (nk n (k + 1)) (tk ns total tz (k + 1)) (stk ns spare tz (k + 1)) := by
  have ht : (tzAt tz k).toNat = t := by omega
  have hf := hg.fresh k hk
  rw [ht] at hf
  rw [stk_other ns spare tz k t hf] at h
  simp only [sp, nk, tk, stk, htz]
  exact h
theorem inv_node' {w : World} {F G N : Nat} {root spare n total : Int} {st : Nat → Nd} (h : Inv w F G N root spare n total st) (hN : N ≤ 32768) (i : Nat) (hi : i < N) (d : Nd) (hd : st i = d) :
    Calls Try.prog 9 #[.pointer (some ⟨F, 0, none⟩), .int .i32 i] w fun e' w' => e' = .returned (.tuple #[.int .i64 d.s, .int .i64 d.e, .int .i64 d.l, .int .u32 d.p, .int .i32 d.lf, .int .i32 d.rt]) ∧ Below w.heap.size w w' := by
  subst hd; exact inv_node h hN i hi
theorem below_alloc (w : World) (o : Obj) : Below w.heap.size w (w.alloc o) := (Below.refl _ _).alloc (Nat.le_refl _) _
theorem nat_of (tz : List Int) {N k T : Nat} (hg : Good tz N T) (hk : k < T) : ∃ t : Nat, tzAt tz k = t ∧ t < N := by
  have := hg.range k hk
  exact ⟨(tzAt tz k).toNat, by omega, by omega⟩
/-- A node's copy in a new block of its own, read later. -/
theorem x_cells (wr : World) (d : Nd) (w4 : World) (hb : Below (wr.alloc (.cells #[.int .i64 d.s, .int .i64 d.e, .int .i64 d.l, .int .u32 d.p, .int .i32 d.lf, .int .i32 d.rt] 30)).heap.size (wr.alloc (.cells #[.int .i64 d.s, .int .i64 d.e, .int .i64 d.l, .int .u32 d.p, .int .i32 d.lf, .int .i32 d.rt] 30)) w4) :
    w4.cell? ⟨wr.heap.size, 0, none⟩ = some (.int .i64 d.s) ∧ w4.cell? ⟨wr.heap.size, 1, none⟩ = some (.int .i64 d.e) ∧ w4.cell? ⟨wr.heap.size, 2, none⟩ = some (.int .i64 d.l) ∧
    w4.cell? ⟨wr.heap.size, 3, none⟩ = some (.int .u32 d.p) ∧ w4.cell? ⟨wr.heap.size, 4, none⟩ = some (.int .i32 d.lf) ∧ w4.cell? ⟨wr.heap.size, 5, none⟩ = some (.int .i32 d.rt) := by
  have c : ∀ o, w4.cell? ⟨wr.heap.size, o, none⟩ = (wr.alloc (.cells #[.int .i64 d.s, .int .i64 d.e, .int .i64 d.l, .int .u32 d.p, .int .i32 d.lf, .int .i32 d.rt] 30)).cell? ⟨wr.heap.size, o, none⟩ :=
    fun o => hb.cell (p := ⟨wr.heap.size, o, none⟩) (by simp)
  refine ⟨?_, ?_, ?_, ?_, ?_, ?_⟩ <;> rw [c] <;> simp [go_sem]
set_option maxRecDepth 100000 in
set_option maxHeartbeats 4000000 in
theorem law3 (a0 : Option Addr) (N cap0 : Nat) (ns : Nat → Nd) (root spare n total : Int) (a5 : Option Addr) (cap5 : Nat) (tz : List Int) (w : World) (hn : NArg w a0 N ns) (ht : TArg w a5 tz)
    (bn0 : -9223372036854775808 ≤ n) (bn1 : n ≤ 9223372036854775807) (btz : ∀ j, -2147483648 ≤ tzAt tz j ∧ tzAt tz j ≤ 2147483647) :
    Calls Try.prog 3 #[.slice a0 N cap0, .int .i32 root, .int .i32 spare, .int .i64 n, .int .i64 total, .slice a5 tz.length cap5] w fun e w' => e = .returned (.bool true) ∧ Below w.heap.size w w' := by
  obtain ⟨i0, hi, hz0, hz1, hz2⟩ := info_parts Try.info4
  have BT : Hid (∀ j, -2147483648 ≤ tzAt tz j ∧ tzAt tz j ≤ 2147483647) := btz
  clear btz
  go_enter Try.func3, Try.ntmps3
  go_wp2_with fail
  refine (bytes_calls a0 a5 N cap0 tz.length cap5 root spare n total _).mono ?_
  rintro e w' ⟨hB, rfl⟩
  rcases hB with rfl | rfl
  rotate_left
  · go_wp2_with fail
    go_ret
    exact ⟨rfl, Below.refl _ _⟩
  by_cases h1 : 32768 < (N : Int)
  · go_wp2_with fail
    go_ret
    exact ⟨rfl, Below.refl _ _⟩
  by_cases h2 : 65536 < (tz.length : Int)
  · go_wp2_with fail
    go_ret
    exact ⟨rfl, Below.refl _ _⟩
  by_cases h3 : 1048576 < (N : Int) * 40 + tz.length * 4
  · go_wp2_with fail
    go_ret
    exact ⟨rfl, Below.refl _ _⟩
  go_wp2_with (at_make; refine wpList_make_full _ rfl _ _ 25 rfl w.heap.size 4 i0 (.bool false) 1 Try.underlying25 hi hz0 hz1 .i64 .i64 _ _ N rfl rfl rfl rfl ?_ ?_ (Nat.le_refl _) ?_)
  · rw [hz2]; omega
  · unfold maxLen; omega
  intro w1 hown hgrow
  have hb1 : Below w.heap.size w w1 := (Below.refl _ _).grown hgrow (Nat.le_refl _) (by simp)
  have hs1 : SeenAt w1 w.heap.size N (seenf tz 0) := seen_made tz (by simpa using hown)
  clear hown hgrow hi hz0 hz1 hz2
  have hNn : N ≤ 32768 := by omega
  go_wp2_with fail
  go_loopw [14, 15] (fun i _ wr => ∃ k : Nat, k ≤ tz.length ∧ i = .int .i64 k ∧ SeenAt wr w.heap.size N (seenf tz k) ∧ Below w.heap.size w wr ∧ Good tz N k) (fun i _ _ => tz.length - (intOf i).toNat)
  case atStart => exact ⟨0, Nat.zero_le _, rfl, hs1, hb1, ⟨fun j hj => absurd hj (by omega), fun j hj => absurd hj (by omega)⟩⟩
  case round =>
    clear hs1 hb1
    obtain ⟨k, hk, rfl, hs, hb, hg⟩ := hrel
    by_cases hlt : k < tz.length
    · obtain ⟨bt, offt, rfl, hbt, hct⟩ := (ht.below hb) (by omega)
      have hck := hct k hlt
      obtain ⟨b0, b1⟩ := BT.out k
      clear hct
      by_cases t1 : tzAt tz k < 1
      · go_wp2_with fail
        go_ret
        exact ⟨rfl, hb⟩
      by_cases t2 : (N : Int) ≤ tzAt tz k
      · go_wp2_with fail
        go_ret
        exact ⟨rfl, hb⟩
      have hzN : (tzAt tz k).toNat < N := by omega
      have hsc := hs.cell _ hzN
      have hsf := hs.free (tzAt tz k).toNat
      cases hse : seenf tz k (tzAt tz k).toNat
      · rw [hse] at hsc
        have hs' := hs.set hzN
        have hb' : Below w.heap.size w (wr.setCell ⟨w.heap.size, (tzAt tz k).toNat, none⟩ (.bool true)) := hb.setCell (Nat.le_refl _) _
        have hg' : Good tz N (k + 1) := ⟨fun j hj => by by_cases e : j = k; · subst e; omega
                                                        exact hg.range j (by omega), fun j hj => by by_cases e : j = k; · subst e; exact hse
                                                                                                    exact hg.fresh j (by omega)⟩
        have HSE : Hid (seenf tz k (tzAt tz k).toNat = false) := hse
        clear hse
        go_wp2_with fail
        go_roundw
        case rel => exact ⟨k + 1, by omega, by go_num, hs', hb', hg'⟩
        case measure => simp [intOf]; omega
      · rw [hse] at hsc
        have HSE : Hid (seenf tz k (tzAt tz k).toNat = true) := hse
        clear hse
        go_wp2_with fail
        go_ret
        exact ⟨rfl, hb⟩
    have hkT : k = tz.length := by omega
    rw [hkT] at hs hg
    have HG : Hid (Good tz N tz.length) := hg
    clear hg hkT
    go_wp2_with fail
    refine (inv_new N _ root spare n total hNn).mono ?_
    rintro e w2 ⟨F, G, rfl, hI, hF, hG, hb2⟩
    have hs2 := hs.below hb2
    have hbw2 := below_step hb hb2
    have hSF : w.heap.size ≠ F := by have := hs.lt; omega
    have hSG : w.heap.size ≠ G := by have := hs.lt; omega
    have hBF : w.heap.size ≤ F := by have := hb.size; omega
    have hBG : w.heap.size ≤ G := by have := hb.size; omega
    clear hs hb hb2 hF hG hk hlt
    go_wp2_with fail
    go_loopw [17, 18] (fun i _ wr => ∃ k : Nat, k ≤ N ∧ i = .int .i64 k ∧ Inv wr F G N root spare n total (mix ns k) ∧ SeenAt wr w.heap.size N (seenf tz tz.length) ∧ Below w.heap.size w wr) (fun i _ _ => N - (intOf i).toNat)
    case atStart => exact ⟨0, Nat.zero_le _, rfl, by rw [mix_zero]; exact hI, hs2, hbw2⟩
    case round =>
      clear hI hs2 hbw2
      obtain ⟨k, hk, rfl, hI, hs, hb⟩ := hrel
      by_cases hlt : k < N
      · obtain ⟨bn, offn, rfl, hbn, hcn⟩ := (hn.below hb) (by omega)
        obtain ⟨c0, c1, c2, c3, c4, c5⟩ := hcn k hlt
        clear hcn
        go_wp2_with fail
        refine (inv_setNode (hI.below (below_alloc _ _)) hNn k hlt _ _ _ _ _ _).mono ?_
        rintro e w3 ⟨rfl, hI3, ht3⟩
        have hI4 : Inv w3 F G N root spare n total (mix ns (k + 1)) := by rw [← mix_succ]; exact hI3
        have hs4 := (hs.below (below_alloc _ _)).touch ht3 hSF hSG
        have hb4 := below_touch (below_step hb (below_alloc _ _)) ht3 hBF hBG
        clear hI3 ht3 hI hs hb c0 c1 c2 c3 c4 c5
        go_wp2_with fail
        go_roundw
        case rel => exact ⟨k + 1, by omega, by go_num, hI4, hs4, hb4⟩
        case measure => simp [intOf]; omega
      have hI0 : Inv wr F G N root spare n total ns := by
        have e : k = N := by omega
        rw [e] at hI
        exact hI.congr (mix_full ns N)
      clear hI hk
      go_wp2_with fail
      clear hlt
      go_loopw [19] (fun i wr => ∃ k : Nat, k ≤ tz.length ∧ i = .int .i64 k ∧ Inv wr F G N root (sp spare tz k) (nk n k) (tk ns total tz k) (stk ns spare tz k) ∧ SeenAt wr w.heap.size N (seenf tz tz.length) ∧ Below w.heap.size w wr) (fun i _ => tz.length - (intOf i).toNat)
      case atStart => exact ⟨0, Nat.zero_le _, rfl, hI0, hs, hb⟩
      case round =>
        clear hI0 hs hb
        obtain ⟨k, hk, rfl, hI, hs, hb⟩ := hrel
        by_cases hlt : k < tz.length
        · obtain ⟨bt, offt, rfl, hbt, hct⟩ := (ht.below hb) (by omega)
          have hck := hct k hlt
          obtain ⟨t, htz, htN⟩ := nat_of tz HG.out hlt
          rw [htz] at hck
          have HT : Hid (tzAt tz k = t) := htz
          clear hct htz
          go_wp2_with fail
          refine (inv_release hI hNn t htN).mono ?_
          rintro e w3 ⟨rfl, hI3, ht3⟩
          have hI4 := inv_step HG.out hlt HT.out hI3
          have hs4 := hs.touch ht3 hSF hSG
          have hb4 := below_touch hb ht3 hBF hBG
          clear hI3 ht3 hI hs hb hck
          go_wp2_with fail
          go_roundw
          case rel => exact ⟨k + 1, by omega, by go_num, hI4, hs4, hb4⟩
          case measure => simp [intOf]; omega
        have hI1 : Inv wr F G N root (sp spare tz tz.length) (nk n tz.length) (tk ns total tz tz.length) (stk ns spare tz tz.length) := by
          have e : k = tz.length := by omega
          rw [e] at hI; exact hI
        clear hI hk
        go_wp2_with fail
        clear hlt
        go_loopw [21, 22, 23] (fun c i _ wr => ∃ k : Nat, k ≤ tz.length ∧ i = .int .i64 k ∧ c = .int .i64 (tk ns total tz k) ∧ Inv wr F G N root (sp spare tz tz.length) (nk n tz.length) (tk ns total tz tz.length) (stk ns spare tz tz.length) ∧ SeenAt wr w.heap.size N (seenf tz tz.length) ∧ Below w.heap.size w wr) (fun _ i _ _ => tz.length - (intOf i).toNat)
        case atStart => exact ⟨0, Nat.zero_le _, rfl, rfl, hI1, hs, hb⟩
        case round =>
          clear hI1 hs hb
          obtain ⟨k, hk, rfl, rfl, hI, hs, hb⟩ := hrel
          by_cases hlt : k < tz.length
          · obtain ⟨bt, offt, rfl, hbt, hct⟩ := (ht.below hb) (by omega)
            have hck := hct k hlt
            obtain ⟨t, htz, htN⟩ := nat_of tz HG.out hlt
            obtain ⟨bn, offn, rfl, hbn, hcn⟩ := (hn.below hb) (by omega)
            obtain ⟨c0, c1, c2, c3, c4, c5⟩ := hcn t htN
            rw [htz] at hck
            have HTK : Hid (tk ns total tz (k + 1) = wrap64 (tk ns total tz k - wrap64 ((ns t).e - (ns t).s))) := by
              show tk ns total tz (k + 1) = wrap64 (tk ns total tz k - wrap64 ((ns t).e - (ns t).s))
              have e : (tzAt tz k).toNat = t := by omega
              simp only [tk, e]
            have hI4 := fun o => hI.below (below_alloc wr o)
            have hs4 := fun o => hs.below (below_alloc wr o)
            have hb4 := fun o => below_step hb (below_alloc wr o)
            clear hct htz hcn hI hs hb
            go_wp2_with fail
            go_roundw
            case rel => exact ⟨k + 1, by omega, by go_num, by rw [HTK.out], hI4 _, hs4 _, hb4 _⟩
            case measure => simp [intOf]; omega
          have e : k = tz.length := by omega
          subst e
          have hnk := nk_eq n bn0 bn1 tz.length
          clear hk hlt
          go_wp2_with fail
          refine (inv_state hI).mono ?_
          rintro e w3 ⟨rfl, hb3⟩
          have hI3 := hI.below hb3
          have hs3 := hs.below hb3
          have hbw3 := below_step hb hb3
          clear hI hs hb hb3
          go_wp2_with fail
          clear hnk
          go_loopw [29, 30, 31, 32, 33, 34, 35, 36] (fun c i _ _ _ _ _ _ wr => ∃ (j : Nat) (x : Int), j ≤ tz.length ∧ Hid (x = (j : Int) - 1) ∧ i = .int .i64 x ∧ c = .int .i32 (sp spare tz j) ∧ Inv wr F G N root (sp spare tz tz.length) (nk n tz.length) (tk ns total tz tz.length) (stk ns spare tz tz.length) ∧ SeenAt wr w.heap.size N (seenf tz tz.length) ∧ Below w.heap.size w wr) (fun _ i _ _ _ _ _ _ _ => (intOf i + 1).toNat)
          case atStart => exact ⟨tz.length, _, Nat.le_refl _, rfl, rfl, rfl, hI3, hs3, hbw3⟩
          case round =>
            clear hI3 hs3 hbw3
            obtain ⟨j, x, hj, HX, rfl, rfl, hI, hs, hb⟩ := hrel
            cases j with
            | succ j =>
              have hx : x = (j : Int) := by have := HX.out; omega
              subst hx
              have hlt : j < tz.length := by omega
              obtain ⟨bt, offt, rfl, hbt, hct⟩ := (ht.below hb) (by omega)
              have hck := hct j hlt
              obtain ⟨t, htz, htN⟩ := nat_of tz HG.out hlt
              have hsp : sp spare tz (j + 1) = t := htz
              have hst : stk ns spare tz tz.length t = ⟨0, 0, 0, 0, sp spare tz j, 0⟩ := by
                have := stk_hit ns spare tz HG.out j tz.length hlt (Nat.le_refl _)
                rw [htz] at this; exact this
              rw [htz] at hck
              have HST : Hid (stk ns spare tz tz.length t = ⟨0, 0, 0, 0, sp spare tz j, 0⟩) := hst
              clear hct htz HX hst
              go_wp2_with fail
              refine (inv_node' hI hNn t htN _ HST.out).mono ?_
              rintro e w4 ⟨rfl, hb4⟩
              have hI4 := hI.below hb4
              have hs4 := hs.below hb4
              have hbw4 := below_step hb hb4
              clear hI hs hb hb4 hck hsp
              go_wp2_with fail
              go_roundw
              case rel => exact ⟨j, _, by omega, rfl, rfl, rfl, hI4, hs4, hbw4⟩
              case measure => simp [intOf]
            | zero =>
              have hx : x = -1 := by have := HX.out; omega
              subst hx
              have hsp : sp spare tz 0 = spare := rfl
              clear HX hj
              go_wp2_with fail
              clear hsp
              go_loopw [37, 38, 39, 40, 41, 42, 43, 44] (fun i _ _ _ _ _ _ _ wr => ∃ k : Nat, k ≤ N ∧ i = .int .i64 k ∧ Inv wr F G N root (sp spare tz tz.length) (nk n tz.length) (tk ns total tz tz.length) (stk ns spare tz tz.length) ∧ SeenAt wr w.heap.size N (seenf tz tz.length) ∧ Below w.heap.size w wr) (fun i _ _ _ _ _ _ _ _ => N - (intOf i).toNat)
              case atStart => exact ⟨0, Nat.zero_le _, rfl, hI, hs, hb⟩
              case round =>
                clear hI hs hb
                obtain ⟨k, hk, rfl, hI, hs, hb⟩ := hrel
                by_cases hlt : k < N
                · have hsc := hs.cell k hlt
                  cases hse : seenf tz tz.length k
                  · rw [hse] at hsc
                    have hst : Hid (stk ns spare tz tz.length k = ns k) := stk_other ns spare tz tz.length k hse
                    obtain ⟨bn, offn, rfl, hbn, hcn⟩ := (hn.below hb) (by omega)
                    obtain ⟨c0, c1, c2, c3, c4, c5⟩ := hcn k hlt
                    clear hse hcn
                    go_wp2_with fail
                    refine (inv_node' (hI.below (below_alloc _ _)) hNn k hlt _ hst.out).mono ?_
                    rintro e w4 ⟨rfl, hb4⟩
                    have hI4 := (hI.below (below_alloc _ _)).below hb4
                    have hs4 := (hs.below (below_alloc _ _)).below hb4
                    have hbw4 := below_step (below_step hb (below_alloc _ _)) hb4
                    obtain ⟨x0, x1, x2, x3, x4, x5⟩ := x_cells wr (ns k) w4 hb4
                    clear hb4 hI hs hb c0 c1 c2 c3 c4 c5 hsc
                    go_wp2_with fail
                    go_roundw
                    case rel => exact ⟨k + 1, by omega, by go_num, hI4, hs4, hbw4⟩
                    case measure => simp [intOf]; omega
                  · rw [hse] at hsc
                    clear hse
                    go_wp2_with fail
                    go_roundw
                    case rel => exact ⟨k + 1, by omega, by go_num, hI, hs, hb⟩
                    case measure => simp [intOf]; omega
                go_wp2_with fail
                go_ret
                exact ⟨rfl, hb⟩
end Go.Proofs.Qxb6617564a.rel
