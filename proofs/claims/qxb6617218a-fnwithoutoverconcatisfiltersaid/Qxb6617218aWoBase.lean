/-
  What the two 'without' laws share: slices of strings that came in, copies, lists.
-/
import Derived.Test.Qxb6617218aWoLooks
import Derived.Laws.CopyOwn
import Derived.SliceStrings
import Derived.ChangeOld
import Derived.Below
namespace Go.Proofs.Qxb6617218a.wo
open Go.ChangeShapes Go.WideShapes Go.ChangeAt Go.RowKit
set_option linter.unusedVariables false

/-- What is known of a slice of strings that came in: its cells hold the strings ss (of an empty one's address nothing is known). -/
def Came (w : World) (a : Option Addr) (ss : List ByteArray) : Prop :=
  0 < ss.length → ∃ b off, a = some ⟨b, off, none⟩ ∧ b < w.heap.size ∧ ∀ i, i < ss.length → w.cell? ⟨b, off + i, none⟩ = some (.string (ss.getD i ByteArray.empty))
def IsB (e : Ending) : Prop := e = .returned (.bool true) ∨ e = .returned (.bool false)

theorem Row.below {w w' : World} {v : Value} {ss : List ByteArray} (h : Row w v ss) (hb : Below w.heap.size w w') : Row w' v ss := by
  rcases h with h | ⟨b, off, cap, rfl, hlt, hc⟩
  · exact .inl h
  · exact .inr ⟨b, off, cap, rfl, Nat.lt_of_lt_of_le hlt hb.size, fun i hi => (hb.cell (p := ⟨b, off + i, none⟩) hlt).trans (hc i hi)⟩
theorem below_step {w w1 w2 : World} (h : Below w.heap.size w w1) (h2 : Below w1.heap.size w1 w2) : Below w.heap.size w w2 := h.trans (h2.mono h.size)
theorem below_drewN (w : World) (n : Nat) : Below w.heap.size w (w.drewN n) := by
  have : ∀ n (B : Nat), Below B w (w.drewN n) := by
    intro n B
    induction n with
    | zero => exact Below.refl _ _
    | succ n ih => exact Below.drew ih
  exact this n _
theorem made_cur {w : World} {base g n : Nat} {xs : List Value} (h : w.ownsRow base 9 1 (.slice (some ⟨g, 0, none⟩) n n) n xs) :
    ∃ cur : List Value, w.heap[g]? = some (.cells cur.toArray 9 (0, 0)) ∧ cur.length = n := by
  obtain ⟨_, ⟨h0, _⟩ | ⟨g', cap, cur, h1, _, hh, _, _, hsz, _⟩⟩ := h
  · cases h0
  · simp only [Value.slice.injEq, Option.some.injEq, Addr.mk.injEq] at h1
    obtain ⟨⟨rfl, _⟩, _, rfl⟩ := h1
    exact ⟨cur.toList, by simpa using hh, by simpa using hsz⟩
theorem row_spliced {w : World} {g : Nat} {cur : List Value} {ss : List ByteArray} (h : w.heap[g]? = some (.cells (splice cur 0 (ss.map Value.string)).toArray 9 (0, 0))) (hl : cur.length = ss.length) (cap : Nat) :
    Row w (.slice (some ⟨g, 0, none⟩) ss.length cap) ss := by
  refine .inr ⟨g, 0, cap, rfl, (Array.getElem?_eq_some_iff.1 h).1, fun i hi => ?_⟩
  have e : splice cur 0 (ss.map Value.string) = ss.map Value.string := by
    simp [splice]; omega
  rw [e] at h
  simp [World.cell?, h, hi]
theorem strs_oneCell (ss : List ByteArray) : ∀ v ∈ ss.map Value.string, v.oneCell' = true := by
  intro v hv; simp at hv; obtain ⟨s, _, rfl⟩ := hv; rfl
theorem came_src {w w1 : World} {a : Option Addr} {ss : List ByteArray} (hc : Came w a ss) (hb : Below w.heap.size w w1) (h0 : 0 < ss.length) :
    ∃ ad, a = some ad ∧ ∀ j v, (ss.map Value.string)[j]? = some v → w1.cell? (ad.add j) = some v := by
  obtain ⟨b, off, rfl, hlt, hcell⟩ := hc h0
  refine ⟨_, rfl, fun j v hv => ?_⟩
  have hj : j < ss.length := by
    have := (List.getElem?_eq_some_iff.1 hv).1; simpa using this
  have := (hb.cell (p := ⟨b, off + j, none⟩) hlt).trans (hcell j hj)
  simp [hj] at hv
  subst hv
  by_cases h : j = 0
  · subst h; simpa [Addr.add, hj] using this
  · simpa [Addr.add, hj, h] using this

theorem wl_comm (l m : ByteArray) (ss : List ByteArray) : wl l (wl m ss) = wl m (wl l ss) := by
  simp only [wl, List.filter_filter]
  exact List.filter_congr (fun x _ => Bool.and_comm _ _)
theorem wl_twice_m (m : ByteArray) (ss : List ByteArray) : wl m (wl m ss) = wl m ss := by
  simp only [wl, List.filter_filter, Bool.and_self]
theorem wl_twice_l (l m : ByteArray) (ss : List ByteArray) : wl l (wl m (wl l ss)) = wl m (wl l ss) := by
  rw [wl_comm l m (wl l ss), wl_twice_m]
theorem wl_both (l m : ByteArray) (ss : List ByteArray) : wl m (wl l ss) = ss.filter (p2 l m) := by
  simp only [wl, List.filter_filter]
  exact List.filter_congr (fun x _ => by simp [p2, Bool.and_comm])
theorem below_drewNs (w : World) (n m : Nat) : Below w.heap.size w (w.drewN (n + m)) := below_drewN w _

/-- A slice of strings, as 'open_strings' opens it. -/
theorem came_of {w : World} {x : Addr} {l c : Nat} {ss : List ByteArray} (hl : l ≤ c) (hz : ss.length = c) (hcell : ∀ i, i < ss.length → w.cell? (x.add i) = some (.string (ss.getD i ByteArray.empty))) :
    (ss.take l).length = l ∧ Came w (some x) (ss.take l) := by
  have e : (ss.take l).length = l := by rw [List.length_take]; omega
  refine ⟨e, fun h0 => ?_⟩
  rw [e] at h0
  obtain ⟨b, off, spot⟩ := x
  have hc := hcell 0 (by omega)
  have hspot : spot = none := by simpa [Addr.add] using World.cell?_spot hc
  subst hspot
  refine ⟨b, off, rfl, by simpa [Addr.add] using World.block_lt_of_cell? _ _ hc, fun i hi => ?_⟩
  rw [e] at hi
  have := hcell i (by omega)
  have g : (ss.take l).getD i ByteArray.empty = ss.getD i ByteArray.empty := by simp [List.getD_eq_getElem?_getD, hi]
  rw [g]
  by_cases h : i = 0
  · subst h; simpa [Addr.add] using this
  · simpa [Addr.add, h] using this
theorem own : ownKnob Try.prog.godebug = none := by kernel_rfl
theorem laidOut : laidOutB Try.prog = true := by kernel_rfl
end Go.Proofs.Qxb6617218a.wo
