/-
  The rangeSet in memory, and the walks of the functions of package store that the law calls.
-/
import Derived.Test.Qxb6617564aRows
import Derived.WalkKit
import Derived.ProofKit
import Derived.OpenShut
import Derived.ShutString
import Derived.Handy
import Derived.BigQuiet
import Derived.WalkSpells
import Derived.WalkLawsBesides
import Derived.BigRegion
namespace Go.Proofs.Qxb6617564a.rel
open Go.ChangeShapes Go.WideShapes Go.ChangeAt Go.RowKit
set_option linter.unusedVariables false

structure Nd where
  s : Int
  e : Int
  l : Int
  p : Int
  lf : Int
  rt : Int
def Nd.zero : Nd := ⟨0, 0, 0, 0, 0, 0⟩

/-- The six cells of a node that begins at ⟨G, o⟩. -/
structure NdAt (w : World) (G o : Nat) (d : Nd) : Prop where
  c0 : w.cell? ⟨G, o, none⟩ = some (.int .i64 d.s)
  c1 : w.cell? ⟨G, o + 1, none⟩ = some (.int .i64 d.e)
  c2 : w.cell? ⟨G, o + 2, none⟩ = some (.int .i64 d.l)
  c3 : w.cell? ⟨G, o + 3, none⟩ = some (.int .u32 d.p)
  c4 : w.cell? ⟨G, o + 4, none⟩ = some (.int .i32 d.lf)
  c5 : w.cell? ⟨G, o + 5, none⟩ = some (.int .i32 d.rt)

def setNd (w : World) (G o : Nat) (d : Nd) : World :=
  (((((w.setCell ⟨G, o, none⟩ (.int .i64 d.s)).setCell ⟨G, o + 1, none⟩ (.int .i64 d.e)).setCell ⟨G, o + 2, none⟩ (.int .i64 d.l)).setCell ⟨G, o + 3, none⟩ (.int .u32 d.p)).setCell ⟨G, o + 4, none⟩ (.int .i32 d.lf)).setCell ⟨G, o + 5, none⟩ (.int .i32 d.rt)

theorem below_drewN' {B : Nat} {w w1 : World} (h : Below B w w1) (n : Nat) : Below B w (w1.drewN n) := by
  induction n with
  | zero => exact h
  | succ n ih => exact Below.drew ih
theorem setNode_calls (F G N i : Nat) (w : World) (d : Nd) (s e l p lf rt : Int) (hi : i < N) (hN : N ≤ 32768)
    (hf : w.cell? ⟨F, 0, none⟩ = some (.slice (some ⟨G, 0, none⟩) N N)) (hd : NdAt w G (i * 6) d) (hz : ∀ o, w.frozen? ⟨G, o, none⟩ = false) :
    Calls Try.prog 6 #[.pointer (some ⟨F, 0, none⟩), .int .i32 i, .int .i64 s, .int .i64 e, .int .i64 l, .int .u32 p, .int .i32 lf, .int .i32 rt] w fun e' w' => e' = .returned (.tuple #[]) ∧ w' = setNd w G (i * 6) ⟨s, e, l, p, lf, rt⟩ := by
  obtain ⟨c0, c1, c2, c3, c4, c5⟩ := hd
  go_enter Try.func6, Try.ntmps6
  go_wp2_with fail
  go_end0
  exact ⟨rfl, rfl⟩
theorem node_calls (F G N i : Nat) (w : World) (d : Nd) (hi : i < N) (hN : N ≤ 32768)
    (hf : w.cell? ⟨F, 0, none⟩ = some (.slice (some ⟨G, 0, none⟩) N N)) (hd : NdAt w G (i * 6) d) :
    Calls Try.prog 9 #[.pointer (some ⟨F, 0, none⟩), .int .i32 i] w fun e' w' => e' = .returned (.tuple #[.int .i64 d.s, .int .i64 d.e, .int .i64 d.l, .int .u32 d.p, .int .i32 d.lf, .int .i32 d.rt]) ∧ Below w.heap.size w w' := by
  obtain ⟨c0, c1, c2, c3, c4, c5⟩ := hd
  go_enter Try.func9, Try.ntmps9
  go_wp2_with fail
  go_quiet (fail)
  go_wp2_with fail
  refine bodyPost_ret (v := .tuple #[.int .i64 d.s, .int .i64 d.e, .int .i64 d.l, .int .u32 d.p, .int .i32 d.lf, .int .i32 d.rt]) (by simp [results, Try.results9, go_sem]) rfl ⟨rfl, ?_⟩
  exact below_drewN' ((Below.refl _ _).alloc (Nat.le_refl _) _) _
theorem state_calls (F G N : Nat) (w : World) (root spare n total : Int) 
    (hf : w.cell? ⟨F, 0, none⟩ = some (.slice (some ⟨G, 0, none⟩) N N)) (f1 : w.cell? ⟨F, 1, none⟩ = some (.int .i32 root)) (f2 : w.cell? ⟨F, 2, none⟩ = some (.int .i32 spare)) (f3 : w.cell? ⟨F, 3, none⟩ = some (.int .i64 n)) (f4 : w.cell? ⟨F, 4, none⟩ = some (.int .i64 total)) :
    Calls Try.prog 8 #[.pointer (some ⟨F, 0, none⟩)] w fun e' w' => e' = .returned (.tuple #[.int .i64 n, .int .i64 total, .int .i32 root, .int .i32 spare, .int .i64 N]) ∧ Below w.heap.size w w' := by
  go_enter Try.func8, Try.ntmps8
  go_wp2_with fail
  go_quiet (fail)
  go_wp2_with fail
  refine bodyPost_ret (v := .tuple #[.int .i64 n, .int .i64 total, .int .i32 root, .int .i32 spare, .int .i64 N]) (by simp [results, Try.results8, go_sem]) rfl ⟨rfl, ?_⟩
  exact below_drewN' (Below.refl _ _) _
theorem Try.info41 : (Try.prog.info? 41).map (fun i => (i.zero, i.size, i.bytes)) = some (some (.agg #[.int .i64 0, .int .i64 0, .int .i64 0, .int .u32 0, .int .i32 0, .int .i32 0]), 6, 40) := by kernel_rfl
theorem new_calls (N : Nat) (w : World) (root spare n total : Int) (hN : N ≤ 32768) :
    Calls Try.prog 5 #[.int .i64 N, .int .i32 root, .int .i32 spare, .int .i64 n, .int .i64 total] w fun e' w' => ∃ w1, e' = .returned (.pointer (some ⟨w1.heap.size, 0, none⟩)) ∧
      w1.ownsRow w.heap.size 41 6 (.slice (some ⟨w.heap.size, 0, none⟩) N N) N (madeCells #[.int .i64 0, .int .i64 0, .int .i64 0, .int .u32 0, .int .i32 0, .int .i32 0] (N * 6)).toList ∧ Below w.heap.size w w1 ∧
      w' = w1.alloc (.cells #[.slice (some ⟨w.heap.size, 0, none⟩) N N, .int .i32 root, .int .i32 spare, .int .i64 n, .int .i64 total] 39) := by
  obtain ⟨i0, hi, hz0, hz1, hz2⟩ := info_parts Try.info41
  go_enter Try.func5, Try.ntmps5
  go_wp2_with (at_make; refine wpList_make_full _ rfl _ _ 37 rfl w.heap.size 41 i0 (.agg #[.int .i64 0, .int .i64 0, .int .i64 0, .int .u32 0, .int .i32 0, .int .i32 0]) 6 Try.underlying37 hi hz0 hz1 .i64 .i64 _ _ N rfl rfl rfl rfl ?_ ?_ (Nat.le_refl _) ?_)
  · rw [hz2]; omega
  · unfold maxLen; omega
  intro w1 hown hgrow
  have hb : Below w.heap.size w w1 := (Below.refl _ _).grown hgrow (Nat.le_refl _) (by simp)
  clear hgrow
  go_wp2_with fail
  go_ret
  exact ⟨w1, rfl, hown, hb, rfl⟩
/-- The world behind 'release'. -/
def relW (w : World) (F G t : Nat) (spare n total : Int) : World :=
  ((setNd ((w.setCell ⟨F, 3, none⟩ (.int .i64 n)).setCell ⟨F, 4, none⟩ (.int .i64 total)) G (t * 6) ⟨0, 0, 0, 0, spare, 0⟩).setCell ⟨F, 2, none⟩ (.int .i32 t))
theorem release_calls (F G N t : Nat) (w : World) (spare n total : Int) (d : Nd) (ht : t < N) (hN : N ≤ 32768) (hFG : F ≠ G)
    (hf : w.cell? ⟨F, 0, none⟩ = some (.slice (some ⟨G, 0, none⟩) N N)) (f2 : w.cell? ⟨F, 2, none⟩ = some (.int .i32 spare)) (f3 : w.cell? ⟨F, 3, none⟩ = some (.int .i64 n)) (f4 : w.cell? ⟨F, 4, none⟩ = some (.int .i64 total))
    (hd : NdAt w G (t * 6) d) (hz : ∀ o, w.frozen? ⟨G, o, none⟩ = false) (hzF : ∀ o, w.frozen? ⟨F, o, none⟩ = false) :
    Calls Try.prog 7 #[.pointer (some ⟨F, 0, none⟩), .int .i32 t] w fun e' w' => e' = .returned (.tuple #[]) ∧ w' = (relW w F G t spare (wrap64 (n - 1)) (wrap64 (total - wrap64 (d.e - d.s)))).drew := by
  obtain ⟨c0, c1, c2, c3, c4, c5⟩ := hd
  go_enter Try.func7, Try.ntmps7
  go_wp2_with go_in
  go_region
  go_wp2_with fail
  go_end0
  exact ⟨rfl, rfl⟩

/-! ### What a store leaves -/
/-- Only the blocks F and G may have turned. -/
structure Touch (w w' : World) (F G : Nat) : Prop where
  os : w'.os = w.os
  tape : w'.tape = w.tape
  output : w'.output = w.output
  size : w.heap.size ≤ w'.heap.size
  block : ∀ k, k ≠ F → k ≠ G → k < w.heap.size → w'.heap[k]? = w.heap[k]?
theorem Touch.refl (w : World) (F G : Nat) : Touch w w F G := ⟨rfl, rfl, rfl, Nat.le_refl _, fun _ _ _ _ => rfl⟩
theorem Touch.setCell {w w1 : World} {F G : Nat} (h : Touch w w1 F G) (p : Addr) (v : Value) (hp : p.block = F ∨ p.block = G) : Touch w (w1.setCell p v) F G :=
  ⟨h.os, h.tape, h.output, by simpa using h.size, fun k h1 h2 h3 => (Below.heap_setCell w1 p v k (by rcases hp with e | e <;> rw [e] <;> assumption)).trans (h.block k h1 h2 h3)⟩
theorem Touch.drew {w w1 : World} {F G : Nat} (h : Touch w w1 F G) : Touch w w1.drew F G := ⟨h.os, h.tape, h.output, h.size, h.block⟩
theorem Touch.below {w w1 : World} {F G B : Nat} (h : Touch w w1 F G) (hF : B ≤ F) (hG : B ≤ G) (hB : B ≤ w.heap.size) : Below B w w1 :=
  ⟨h.os, h.tape, h.output, h.size, fun k hk => h.block k (by omega) (by omega) (by omega)⟩
theorem Touch.setNd {w w1 : World} {F G : Nat} (h : Touch w w1 F G) (o : Nat) (d : Nd) : Touch w (setNd w1 G o d) F G := by
  unfold rel.setNd
  exact (((((h.setCell _ _ (.inr rfl)).setCell _ _ (.inr rfl)).setCell _ _ (.inr rfl)).setCell _ _ (.inr rfl)).setCell _ _ (.inr rfl)).setCell _ _ (.inr rfl)
theorem cell_setNd (w : World) (G o : Nat) (d : Nd) (x : Addr) (hx : x.block = G → x.off < o ∨ o + 6 ≤ x.off) : (setNd w G o d).cell? x = w.cell? x := by
  have ne : ∀ k, k < 6 → (⟨G, o + k, none⟩ : Addr) ≠ x := by
    intro k hk e; subst e; have := hx rfl; simp at this; omega
  unfold setNd
  rw [World.cell?_setCell_other _ _ _ _ (ne 5 (by omega)), World.cell?_setCell_other _ _ _ _ (ne 4 (by omega)), World.cell?_setCell_other _ _ _ _ (ne 3 (by omega)), World.cell?_setCell_other _ _ _ _ (ne 2 (by omega)), World.cell?_setCell_other _ _ _ _ (ne 1 (by omega)), World.cell?_setCell_other _ _ _ _ (show (⟨G, o, none⟩ : Addr) ≠ x from ne 0 (by omega))]
theorem frozen_setNd (w : World) (G o : Nat) (d : Nd) (x : Addr) : (setNd w G o d).frozen? x = w.frozen? x := by
  simp [setNd]
theorem size_setNd (w : World) (G o : Nat) (d : Nd) : (setNd w G o d).heap.size = w.heap.size := by
  simp [setNd]
theorem NdAt.of_cells {w w' : World} {G o : Nat} {d : Nd} (h : NdAt w G o d) (hc : ∀ k, k < 6 → w'.cell? ⟨G, o + k, none⟩ = w.cell? ⟨G, o + k, none⟩) : NdAt w' G o d :=
  ⟨(hc 0 (by omega)).trans h.c0, (hc 1 (by omega)).trans h.c1, (hc 2 (by omega)).trans h.c2, (hc 3 (by omega)).trans h.c3, (hc 4 (by omega)).trans h.c4, (hc 5 (by omega)).trans h.c5⟩
theorem NdAt.set {w : World} {G o : Nat} {d : Nd} (h : NdAt w G o d) (d' : Nd) : NdAt (setNd w G o d') G o d' := by
  obtain ⟨c0, c1, c2, c3, c4, c5⟩ := h
  unfold setNd
  constructor <;> simp [go_sem, c0, c1, c2, c3, c4, c5]
/-- THE rangeSet: the struct at block F, its nodes in block G. -/
structure Inv (w : World) (F G N : Nat) (root spare n total : Int) (st : Nat → Nd) : Prop where
  ne : F ≠ G
  ltF : F < w.heap.size
  ltG : G < w.heap.size
  f0 : w.cell? ⟨F, 0, none⟩ = some (.slice (some ⟨G, 0, none⟩) N N)
  f1 : w.cell? ⟨F, 1, none⟩ = some (.int .i32 root)
  f2 : w.cell? ⟨F, 2, none⟩ = some (.int .i32 spare)
  f3 : w.cell? ⟨F, 3, none⟩ = some (.int .i64 n)
  f4 : w.cell? ⟨F, 4, none⟩ = some (.int .i64 total)
  zF : ∀ o, w.frozen? ⟨F, o, none⟩ = false
  zG : ∀ o, w.frozen? ⟨G, o, none⟩ = false
  nd : ∀ i, i < N → NdAt w G (i * 6) (st i)
def upd (st : Nat → Nd) (i : Nat) (d : Nd) : Nat → Nd := fun j => if j = i then d else st j
theorem Inv.below {w w' : World} {F G N : Nat} {root spare n total : Int} {st : Nat → Nd} (h : Inv w F G N root spare n total st) (hb : Below w.heap.size w w') : Inv w' F G N root spare n total st := by
  have c : ∀ b o, b < w.heap.size → w'.cell? ⟨b, o, none⟩ = w.cell? ⟨b, o, none⟩ := fun b o hlt => hb.cell (p := ⟨b, o, none⟩) hlt
  have z : ∀ b o, b < w.heap.size → w'.frozen? ⟨b, o, none⟩ = w.frozen? ⟨b, o, none⟩ := fun b o hlt => hb.frozen (p := ⟨b, o, none⟩) hlt
  exact ⟨h.ne, Nat.lt_of_lt_of_le h.ltF hb.size, Nat.lt_of_lt_of_le h.ltG hb.size, (c _ _ h.ltF).trans h.f0, (c _ _ h.ltF).trans h.f1, (c _ _ h.ltF).trans h.f2, (c _ _ h.ltF).trans h.f3, (c _ _ h.ltF).trans h.f4,
    fun o => (z _ _ h.ltF).trans (h.zF o), fun o => (z _ _ h.ltG).trans (h.zG o), fun i hi => (h.nd i hi).of_cells fun k _ => c _ _ h.ltG⟩
theorem Inv.setNd {w : World} {F G N : Nat} {root spare n total : Int} {st : Nat → Nd} (h : Inv w F G N root spare n total st) (i : Nat) (hi : i < N) (d : Nd) : Inv (setNd w G (i * 6) d) F G N root spare n total (upd st i d) := by
  have c : ∀ o, (rel.setNd w G (i * 6) d).cell? ⟨F, o, none⟩ = w.cell? ⟨F, o, none⟩ := fun o => cell_setNd w G _ d _ (fun e => absurd e h.ne)
  refine ⟨h.ne, by rw [size_setNd]; exact h.ltF, by rw [size_setNd]; exact h.ltG, (c _).trans h.f0, (c _).trans h.f1, (c _).trans h.f2, (c _).trans h.f3, (c _).trans h.f4,
    fun o => (frozen_setNd ..).trans (h.zF o), fun o => (frozen_setNd ..).trans (h.zG o), fun j hj => ?_⟩
  unfold upd
  by_cases e : j = i
  · subst e; rw [if_pos rfl]; exact (h.nd j hj).set d
  · rw [if_neg e]; exact (h.nd j hj).of_cells fun k hk => cell_setNd w G _ d _ (fun _ => by show j * 6 + k < i * 6 ∨ i * 6 + 6 ≤ j * 6 + k; omega)
theorem cell_F {w : World} {F G : Nat} (hne : F ≠ G) (o o' : Nat) (v : Value) : (w.setCell ⟨F, o, none⟩ v).cell? ⟨G, o', none⟩ = w.cell? ⟨G, o', none⟩ :=
  World.cell?_setCell_other _ _ _ _ (fun e => hne (by cases e; rfl))
theorem cell_off {w : World} {F : Nat} (o o' : Nat) (h : o ≠ o') (v : Value) : (w.setCell ⟨F, o, none⟩ v).cell? ⟨F, o', none⟩ = w.cell? ⟨F, o', none⟩ :=
  World.cell?_setCell_other _ _ _ _ (fun e => h (by cases e; rfl))
theorem Inv.setF2 {w : World} {F G N : Nat} {root spare n total : Int} {st : Nat → Nd} (h : Inv w F G N root spare n total st) (v : Int) : Inv (w.setCell ⟨F, 2, none⟩ (.int .i32 v)) F G N root v n total st :=
  ⟨h.ne, by simpa using h.ltF, by simpa using h.ltG, (cell_off 2 0 (by omega) _).trans h.f0, (cell_off 2 1 (by omega) _).trans h.f1, World.cell?_setCell_same _ _ _ h.f2, (cell_off 2 3 (by omega) _).trans h.f3, (cell_off 2 4 (by omega) _).trans h.f4,
    fun o => by simpa using h.zF o, fun o => by simpa using h.zG o, fun i hi => (h.nd i hi).of_cells fun k _ => cell_F h.ne _ _ _⟩
theorem Inv.setF3 {w : World} {F G N : Nat} {root spare n total : Int} {st : Nat → Nd} (h : Inv w F G N root spare n total st) (v : Int) : Inv (w.setCell ⟨F, 3, none⟩ (.int .i64 v)) F G N root spare v total st :=
  ⟨h.ne, by simpa using h.ltF, by simpa using h.ltG, (cell_off 3 0 (by omega) _).trans h.f0, (cell_off 3 1 (by omega) _).trans h.f1, (cell_off 3 2 (by omega) _).trans h.f2, World.cell?_setCell_same _ _ _ h.f3, (cell_off 3 4 (by omega) _).trans h.f4,
    fun o => by simpa using h.zF o, fun o => by simpa using h.zG o, fun i hi => (h.nd i hi).of_cells fun k _ => cell_F h.ne _ _ _⟩
theorem Inv.setF4 {w : World} {F G N : Nat} {root spare n total : Int} {st : Nat → Nd} (h : Inv w F G N root spare n total st) (v : Int) : Inv (w.setCell ⟨F, 4, none⟩ (.int .i64 v)) F G N root spare n v st :=
  ⟨h.ne, by simpa using h.ltF, by simpa using h.ltG, (cell_off 4 0 (by omega) _).trans h.f0, (cell_off 4 1 (by omega) _).trans h.f1, (cell_off 4 2 (by omega) _).trans h.f2, (cell_off 4 3 (by omega) _).trans h.f3, World.cell?_setCell_same _ _ _ h.f4,
    fun o => by simpa using h.zF o, fun o => by simpa using h.zG o, fun i hi => (h.nd i hi).of_cells fun k _ => cell_F h.ne _ _ _⟩
theorem below_self_drew (w : World) : Below w.heap.size w w.drew := (Below.refl _ _).drew

/-! ### The contracts, over 'Inv' -/
theorem inv_setNode {w : World} {F G N : Nat} {root spare n total : Int} {st : Nat → Nd} (h : Inv w F G N root spare n total st) (hN : N ≤ 32768) (i : Nat) (hi : i < N) (s e l p lf rt : Int) :
    Calls Try.prog 6 #[.pointer (some ⟨F, 0, none⟩), .int .i32 i, .int .i64 s, .int .i64 e, .int .i64 l, .int .u32 p, .int .i32 lf, .int .i32 rt] w fun e' w' => e' = .returned (.tuple #[]) ∧ Inv w' F G N root spare n total (upd st i ⟨s, e, l, p, lf, rt⟩) ∧ Touch w w' F G :=
  (setNode_calls F G N i w (st i) s e l p lf rt hi hN h.f0 (h.nd i hi) h.zG).mono (by
    rintro e' w' ⟨rfl, rfl⟩
    exact ⟨rfl, h.setNd i hi _, (Touch.refl w F G).setNd _ _⟩)
theorem inv_release {w : World} {F G N : Nat} {root spare n total : Int} {st : Nat → Nd} (h : Inv w F G N root spare n total st) (hN : N ≤ 32768) (t : Nat) (ht : t < N) :
    Calls Try.prog 7 #[.pointer (some ⟨F, 0, none⟩), .int .i32 t] w fun e' w' => e' = .returned (.tuple #[]) ∧
      Inv w' F G N root t (wrap64 (n - 1)) (wrap64 (total - wrap64 ((st t).e - (st t).s))) (upd st t ⟨0, 0, 0, 0, spare, 0⟩) ∧ Touch w w' F G :=
  (release_calls F G N t w spare n total (st t) ht hN h.ne h.f0 h.f2 h.f3 h.f4 (h.nd t ht) h.zG h.zF).mono (by
    rintro e' w' ⟨rfl, rfl⟩
    refine ⟨rfl, Inv.below (((h.setF3 _).setF4 _).setNd t ht _ |>.setF2 _) (below_self_drew _), ?_⟩
    exact ((((Touch.refl w F G).setCell _ _ (.inl rfl)).setCell _ _ (.inl rfl)).setNd _ _ |>.setCell _ _ (.inl rfl)).drew)
theorem inv_node {w : World} {F G N : Nat} {root spare n total : Int} {st : Nat → Nd} (h : Inv w F G N root spare n total st) (hN : N ≤ 32768) (i : Nat) (hi : i < N) :
    Calls Try.prog 9 #[.pointer (some ⟨F, 0, none⟩), .int .i32 i] w fun e' w' => e' = .returned (.tuple #[.int .i64 (st i).s, .int .i64 (st i).e, .int .i64 (st i).l, .int .u32 (st i).p, .int .i32 (st i).lf, .int .i32 (st i).rt]) ∧ Below w.heap.size w w' :=
  node_calls F G N i w (st i) hi hN h.f0 (h.nd i hi)
theorem inv_state {w : World} {F G N : Nat} {root spare n total : Int} {st : Nat → Nd} (h : Inv w F G N root spare n total st) :
    Calls Try.prog 8 #[.pointer (some ⟨F, 0, none⟩)] w fun e' w' => e' = .returned (.tuple #[.int .i64 n, .int .i64 total, .int .i32 root, .int .i32 spare, .int .i64 N]) ∧ Below w.heap.size w w' :=
  state_calls F G N w root spare n total h.f0 h.f1 h.f2 h.f3 h.f4
theorem made_nd (z : Array Value) (hz : z = #[.int .i64 0, .int .i64 0, .int .i64 0, .int .u32 0, .int .i32 0, .int .i32 0]) (N i j : Nat) (hi : i < N) (hj : j < 6) : (madeCells z (N * 6))[i * 6 + j]? = z[j]? := by
  have h1 : i * 6 + j < N * 6 := by omega
  have h2 : (i * 6 + j) % 6 = j := by omega
  subst hz
  simp [madeCells, h1, h2, hj]
theorem inv_new (N : Nat) (w : World) (root spare n total : Int) (hN : N ≤ 32768) :
    Calls Try.prog 5 #[.int .i64 N, .int .i32 root, .int .i32 spare, .int .i64 n, .int .i64 total] w fun e' w' => ∃ F G, e' = .returned (.pointer (some ⟨F, 0, none⟩)) ∧ Inv w' F G N root spare n total (fun _ => Nd.zero) ∧ w.heap.size ≤ F ∧ w.heap.size ≤ G ∧ Below w.heap.size w w' :=
  (new_calls N w root spare n total hN).mono (by
    rintro e' w' ⟨w1, rfl, hown, hb, rfl⟩
    obtain ⟨_, ⟨h0, _⟩ | ⟨g, cap, cur, h1, _, hh, _, _, hsz, htake⟩⟩ := hown
    · cases h0
    simp only [Value.slice.injEq, Option.some.injEq, Addr.mk.injEq] at h1
    obtain ⟨⟨rfl, _⟩, _, rfl⟩ := h1
    have hlt : w.heap.size < w1.heap.size := (Array.getElem?_eq_some_iff.1 hh).1
    have hcur : cur = madeCells #[.int .i64 0, .int .i64 0, .int .i64 0, .int .u32 0, .int .i32 0, .int .i32 0] (N * 6) := by
      apply Array.ext'
      rw [← htake, List.take_of_length_le (by simp [hsz])]
    refine ⟨w1.heap.size, w.heap.size, rfl, ?_, Nat.le_of_lt hlt, Nat.le_refl _, hb.alloc (Nat.le_of_lt hlt) _⟩
    have cG : ∀ o, (w1.alloc (.cells #[.slice (some ⟨w.heap.size, 0, none⟩) N N, .int .i32 root, .int .i32 spare, .int .i64 n, .int .i64 total] 39)).cell? ⟨w.heap.size, o, none⟩ = cur[o]? := by
      intro o
      have := Below.heap_alloc w1 (.cells #[.slice (some ⟨w.heap.size, 0, none⟩) N N, .int .i32 root, .int .i32 spare, .int .i64 n, .int .i64 total] 39) w.heap.size hlt
      simp only [World.cell?, this, hh]; rfl
    have zG : ∀ o, (w1.alloc (.cells #[.slice (some ⟨w.heap.size, 0, none⟩) N N, .int .i32 root, .int .i32 spare, .int .i64 n, .int .i64 total] 39)).frozen? ⟨w.heap.size, o, none⟩ = false := by
      intro o
      have := Below.heap_alloc w1 (.cells #[.slice (some ⟨w.heap.size, 0, none⟩) N N, .int .i32 root, .int .i32 spare, .int .i64 n, .int .i64 total] 39) w.heap.size hlt
      simp only [World.frozen?, this, hh]; simp
    refine ⟨by omega, by simp, by simp; omega, by simp [go_sem], by simp [go_sem], by simp [go_sem], by simp [go_sem], by simp [go_sem], fun o => by simp [go_sem], zG, fun i hi => ?_⟩
    constructor <;> rw [cG, hcur]
    · exact made_nd _ rfl N i 0 hi (by omega)
    · exact made_nd _ rfl N i 1 hi (by omega)
    · exact made_nd _ rfl N i 2 hi (by omega)
    · exact made_nd _ rfl N i 3 hi (by omega)
    · exact made_nd _ rfl N i 4 hi (by omega)
    · exact made_nd _ rfl N i 5 hi (by omega))
end Go.Proofs.Qxb6617564a.rel
