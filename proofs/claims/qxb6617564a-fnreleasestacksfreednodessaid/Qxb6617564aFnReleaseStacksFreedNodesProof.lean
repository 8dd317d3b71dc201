/-
  Proof of 'Rows.FnReleaseStacksFreedNodesSaid'. The row's step is the guide's own frame (proof-skeleton.mjs, a law over slices), turned to a slice of structs of six integers beside a slice of int32.
-/
import Derived.Test.Qxb6617564aRelLaw
import Derived.Deep.Slices
import Derived.ChangeOld
import Derived.Below
namespace Go.Proofs.Qxb6617564a.rel
open Go.ChangeShapes Go.WideShapes Go.ChangeAt Go.RowKit
open Go.Deep
set_option linter.unusedVariables false

theorem own : ownKnob Try.prog.godebug = none := by kernel_rfl
theorem laidOut : laidOutB Try.prog = true := by kernel_rfl
theorem cells30 : Try.prog.cellsOf 30 = 6 := by kernel_rfl
theorem cells2 : Try.prog.cellsOf 2 = 1 := by kernel_rfl
theorem cells28 : Try.prog.cellsOf 28 = 1 := by kernel_rfl
theorem cells21 : Try.prog.cellsOf 21 = 1 := by kernel_rfl
theorem addr_add (b off n : Nat) : (⟨b, off, none⟩ : Addr).add n = ⟨b, off + n, none⟩ := by
  by_cases h : n = 0
  · subst h; simp [Addr.add]
  · simp [Addr.add, h]

section
variable {H : Type} {enc : TypeId × Value → H} {w : World} {base : Nat} {spare : Nat → Bool} {held : Bool}
/-- A struct of six integers, its cells written out. -/
theorem node_cells {fuel : Nat} {cs : List Value} {x : DataW H × List MemPlace} (h : DataW.trod enc Try.prog w base spare held fuel 30 cs = some x) :
    ∃ d : Nd, cs = [.int .i64 d.s, .int .i64 d.e, .int .i64 d.l, .int .u32 d.p, .int .i32 d.lf, .int .i32 d.rt] := by
  obtain ⟨xs, n, _, _, hl, hlen, hf⟩ := DataW.trod_struct Try.underlying30 h
  rw [cells30] at hl
  match cs, hl with
  | [v0, v1, v2, v3, v4, v5], _ =>
    match xs, hlen with
    | [y0, y1, y2, y3, y4, y5], _ =>
      have g0 : DataW.trod enc Try.prog w base spare held n 2 [v0] = some y0 := by simpa [cells2] using hf 0 _ rfl
      have g1 : DataW.trod enc Try.prog w base spare held n 2 [v1] = some y1 := by simpa [cells2] using hf 1 _ rfl
      have g2 : DataW.trod enc Try.prog w base spare held n 2 [v2] = some y2 := by simpa [cells2] using hf 2 _ rfl
      have g3 : DataW.trod enc Try.prog w base spare held n 28 [v3] = some y3 := by simpa [cells28] using hf 3 _ rfl
      have g4 : DataW.trod enc Try.prog w base spare held n 21 [v4] = some y4 := by simpa [cells21] using hf 4 _ rfl
      have g5 : DataW.trod enc Try.prog w base spare held n 21 [v5] = some y5 := by simpa [cells21] using hf 5 _ rfl
      obtain ⟨s, e0, _, _⟩ := DataW.trod_int Try.underlying2 g0
      obtain ⟨e, e1, _, _⟩ := DataW.trod_int Try.underlying2 g1
      obtain ⟨l, e2, _, _⟩ := DataW.trod_int Try.underlying2 g2
      obtain ⟨p, e3, _, _⟩ := DataW.trod_int Try.underlying28 g3
      obtain ⟨lf, e4, _, _⟩ := DataW.trod_int Try.underlying21 g4
      obtain ⟨rt, e5, _, _⟩ := DataW.trod_int Try.underlying21 g5
      simp at e0 e1 e2 e3 e4 e5
      exact ⟨⟨s, e, l, p, lf, rt⟩, by rw [e0, e1, e2, e3, e4, e5]⟩
theorem cells_get {a : Addr} {n : Nat} {cs : List Value} (h : w.cells? base a n = some cs) (j : Nat) (hj : j < n) : w.cell? (a.add j) = cs[j]? := by
  unfold World.cells? at h
  split at h
  · exact mapM_some_get h j j (by simp [hj])
  · cases h
theorem narg_of {a : Option Addr} {len cap fuel : Nat} {x : DataW H × List MemPlace} (h : DataW.trod enc Try.prog w base spare held fuel 22 [.slice a len cap] = some x) :
    ∃ ns : Nat → Nd, NArg w a len ns := by
  rcases open_slice Try.underlying22 h with ⟨hcs, _⟩ | ⟨ad, len', cap', m, n, D, Pl, hcs, _, hl, _, hm, _, hel⟩
  · simp at hcs
    obtain ⟨rfl, rfl, rfl⟩ := hcs
    exact ⟨fun _ => Nd.zero, fun h => absurd h (by omega)⟩
  · simp at hcs
    obtain ⟨rfl, rfl, rfl⟩ := hcs
    rw [cells30] at hel
    have hlm : len ≤ m := by rw [hm]; split <;> omega
    obtain ⟨b, off, spot⟩ := ad
    by_cases h0 : 0 < len
    · have hspot : spot = none := by
        obtain ⟨cs', hc, ht⟩ := hel 0 (by omega)
        obtain ⟨d, rfl⟩ := node_cells ht
        have := cells_get hc 0 (by omega)
        exact World.cell?_spot (a := ⟨b, off, spot⟩) (by simpa [Addr.add] using this)
      subst hspot
      have each : ∀ i, ∃ d : Nd, i < len → NdAt w b (off + i * 6) d := by
        intro i
        by_cases hi : i < len
        · obtain ⟨cs', hc, ht⟩ := hel i (by omega)
          obtain ⟨d, rfl⟩ := node_cells ht
          rw [addr_add] at hc
          refine ⟨d, fun _ => ?_⟩
          have g : ∀ j, j < 6 → w.cell? ⟨b, off + i * 6 + j, none⟩ = [Value.int .i64 d.s, .int .i64 d.e, .int .i64 d.l, .int .u32 d.p, .int .i32 d.lf, .int .i32 d.rt][j]? := by
            intro j hj
            rw [← addr_add]
            exact cells_get hc j hj
          exact ⟨g 0 (by omega), g 1 (by omega), g 2 (by omega), g 3 (by omega), g 4 (by omega), g 5 (by omega)⟩
        · exact ⟨Nd.zero, fun h => absurd h hi⟩
      refine ⟨fun i => (each i).choose, fun _ => ⟨b, off, rfl, ?_, fun i hi => (each i).choose_spec hi⟩⟩
      have := ((each 0).choose_spec h0).c0
      exact World.block_lt_of_cell? _ _ this
    · exact ⟨fun _ => Nd.zero, fun h => absurd h h0⟩
theorem targ_of {a : Option Addr} {len cap fuel : Nat} {x : DataW H × List MemPlace} (h : DataW.trod enc Try.prog w base (fun _ => true) held fuel 23 [.slice a len cap] = some x) :
    ∃ tz : List Int, tz.length = len ∧ TArg w a tz ∧ ∀ j, -2147483648 ≤ tzAt tz j ∧ tzAt tz j ≤ 2147483647 := by
  rcases open_ints Try.underlying23 Try.underlying21 cells21 h with ⟨hcs, _⟩ | ⟨ad, l, c, zs, hcs, _, hl, hm, hz, _, hcell, hwz⟩
  · simp at hcs
    obtain ⟨rfl, rfl, rfl⟩ := hcs
    exact ⟨[], rfl, fun h => absurd h (by simp), fun j => by simp [tzAt]⟩
  · simp at hcs
    obtain ⟨rfl, rfl, rfl⟩ := hcs
    have hz' : zs.length = cap := by simpa using hz
    have e : (zs.take len).length = len := by rw [List.length_take]; omega
    have ev : ∀ j, j < len → tzAt (zs.take len) j = zs.getD j 0 := by
      intro j hj; simp [tzAt, List.getD_eq_getElem?_getD, hj]
    refine ⟨zs.take len, e, fun h0 => ?_, fun j => ?_⟩
    · rw [e] at h0
      obtain ⟨b, off, spot⟩ := ad
      have hc := hcell 0 (by omega)
      have hspot : spot = none := by simpa [Addr.add] using World.cell?_spot hc
      subst hspot
      refine ⟨b, off, rfl, by simpa [Addr.add] using World.block_lt_of_cell? _ _ hc, fun i hi => ?_⟩
      rw [e] at hi
      rw [ev i hi, ← addr_add]
      exact hcell i (by omega)
    · by_cases hj : j < len
      · rw [ev j hj]
        have : zs.getD j 0 ∈ zs := by
          rw [List.getD_eq_getElem?_getD, List.getElem?_eq_getElem (by omega)]; exact List.getElem_mem _
        exact bounds_i32 (hwz _ this)
      · have : tzAt (zs.take len) j = 0 := by
          unfold tzAt; rw [List.getD_eq_getElem?_getD, List.getElem?_eq_none (by omega)]; rfl
        omega
end
end Go.Proofs.Qxb6617564a.rel
namespace Go.Proofs.Qxb6617564a.fnReleaseStacksFreedNodes
open Go.ChangeShapes Go.WideShapes Go.ChangeAt Go.RowKit
open Go.Proofs.Qxb6617564a.rel
set_option linter.unusedVariables false

/-! ### THE ROW's STEP -/
set_option maxRecDepth 100000 in
theorem lifted (os : Os) (started : os.Started) (H : Type) (enc : TypeId × Value → H) :
    ReturnsInHanded {} Try.checked os 3 .any (Rows.fnReleaseStacksFreedNodesSpec.pre6 enc Try.prog Try.f3 Rows.fnReleaseStacksFreedNodesRow.domain false) (Rows.fnReleaseStacksFreedNodesSpec.post enc Try.prog Try.f3 false true false false) := by
  refine returnsInHanded_of_change (C := Try.checked) own started (by kernel_rfl) Try.func3
    (ChangeSpec.witness6 (enc := enc) (C := Try.checked) false ⟨#[], #[.slice none 0 0, .int .i32 0, .int .i32 0, .int .i64 0, .int .i64 0, .slice none 0 0], []⟩ 8 (by kernel_rfl) (by kernel_rfl) (by kernel_rfl) (by kernel_rfl)) ?_
  intro W base args ds gs before hval0 hW hcnd _
  have hval : ∀ (j : Nat) t v, Try.f3.params[j]? = some t → args[j]? = some v → Value.okWide Try.prog W .any base t v := hval0
  have hW' := hW
  obtain ⟨p, q, hA0, hV, rfl, hfz, hnd⟩ := hW
  have hA : DataW.TrodAll enc Try.prog W 0 (fun _ => true) true Try.f3.params.toList args.toList ds p := hA0
  rw [Try.params3] at hA hval
  obtain ⟨v0, vs0, d0, ds0, p0, q0, hargs, rfl, rfl, h0, r0⟩ := trodAll_cons hA
  obtain ⟨v1, vs1, d1, ds1, p1, q1, rfl, rfl, rfl, h1, r1⟩ := trodAll_cons r0
  obtain ⟨v2, vs2, d2, ds2, p2, q2, rfl, rfl, rfl, h2, r2⟩ := trodAll_cons r1
  obtain ⟨v3, vs3, d3, ds3, p3, q3, rfl, rfl, rfl, h3, r3⟩ := trodAll_cons r2
  obtain ⟨v4, vs4, d4, ds4, p4, q4, rfl, rfl, rfl, h4, r4⟩ := trodAll_cons r3
  obtain ⟨v5, vs5, d5, ds5, p5, q5, rfl, rfl, rfl, h5, r5⟩ := trodAll_cons r4
  obtain ⟨rfl, rfl, rfl⟩ := trodAll_nil r5
  obtain rfl : args = #[v0, v1, v2, v3, v4, v5] := by cases args; simp_all
  obtain ⟨rfl, rfl⟩ := trodVars_none hV
  obtain ⟨a0, len0, cap0, rfl⟩ := okWide_slice Try.underlying22 (hval 0 22 v0 rfl rfl)
  have k0 := h0
  have lt0 : ∀ x ∈ p0, x.block < W.heap.size := by obtain ⟨m, hm⟩ := k0; exact DataW.trod_lt m _ _ _ hm
  obtain ⟨ns, w0⟩ : ∃ ns : Nat → Nd, NArg W a0 len0 ns := by
    obtain ⟨fuel, hf⟩ := h0
    exact narg_of hf
  obtain ⟨a1, rfl, rfl, rfl, w1⟩ := open_int Try.underlying21 (hval 1 21 v1 rfl rfl) h1
  obtain ⟨a2, rfl, rfl, rfl, w2⟩ := open_int Try.underlying21 (hval 2 21 v2 rfl rfl) h2
  obtain ⟨a3, rfl, rfl, rfl, w3⟩ := open_int Try.underlying3 (hval 3 3 v3 rfl rfl) h3
  obtain ⟨a4, rfl, rfl, rfl, w4⟩ := open_int Try.underlying2 (hval 4 2 v4 rfl rfl) h4
  obtain ⟨a5, len5, cap5, rfl⟩ := okWide_slice Try.underlying23 (hval 5 23 v5 rfl rfl)
  have k5 := h5
  have lt5 : ∀ x ∈ p5, x.block < W.heap.size := by obtain ⟨m, hm⟩ := k5; exact DataW.trod_lt m _ _ _ hm
  obtain ⟨tz, e5, w5, b5⟩ : ∃ tz : List Int, tz.length = len5 ∧ TArg W a5 tz ∧ ∀ j, -2147483648 ≤ tzAt tz j ∧ tzAt tz j ≤ 2147483647 := by
    obtain ⟨fuel, hf⟩ := h5
    exact targ_of hf
  subst e5
  obtain ⟨n0, n1⟩ := bounds_i64 w3
  clear hA0 hval0
  refine (law3 a0 len0 cap0 ns a1 a2 a3 a4 a5 cap5 tz W w0 w5 n0 n1 b5).mono fun e W' ⟨he, bel⟩ => ?_
  subst he
  exact ⟨_, rfl, _, _, _, [], _, [], hW', trodAll_mk1 (shut_bool Try.underlying4 _), (trodAll_cons_mk (Below.trod laidOut (by kernel_rfl) (of_decide_eq_true (by kernel_rfl)) k0 bel lt0) (trodAll_cons_mk (shut_int Try.underlying21 w1) (trodAll_cons_mk (shut_int Try.underlying21 w2) (trodAll_cons_mk (shut_int Try.underlying3 w3) (trodAll_cons_mk (shut_int Try.underlying2 w4) (trodAll_cons_mk (Below.trod laidOut (by kernel_rfl) (of_decide_eq_true (by kernel_rfl)) k5 bel lt5) trodAll_mk0)))))), rfl, bel.frame _, fun h => by cases h⟩

theorem over : Rows.fnReleaseStacksFreedNodesRow.holds Try.pinned (OpenSpec.ofChange Rows.fnReleaseStacksFreedNodesSpec) :=
  OpenClaim.holds_of_wide 3 Try.f3 rfl rfl rfl rfl rfl rfl rfl ⟨rfl, rfl, rfl, rfl, rfl⟩ rfl rfl rfl rfl rfl (by kernel_rfl) Try.func3 (by kernel_rfl)
    (of_decide_eq_true (by kernel_rfl)) (by unfold Func.isWrapper; first | (rw [if_pos (by decide +kernel)]; kernel_rfl) | (rw [if_neg (by decide +kernel)]; exact ⟨rfl, rfl⟩))
    (fun os started H enc _ => lifted os started H enc)

/-- THE STATEMENT -/
theorem proved : Rows.FnReleaseStacksFreedNodesSaid := over
end Go.Proofs.Qxb6617564a.fnReleaseStacksFreedNodes
