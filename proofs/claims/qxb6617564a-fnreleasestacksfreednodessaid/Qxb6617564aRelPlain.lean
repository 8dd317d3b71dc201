/-
  The plain side of the release law: what the state is behind k releases; what is seen.
-/
import Derived.Test.Qxb6617564aRelBase
namespace Go.Proofs.Qxb6617564a.rel
open Go.ChangeShapes Go.WideShapes Go.ChangeAt Go.RowKit
set_option linter.unusedVariables false

/-- The j-th of the released nodes. -/
def tzAt (tz : List Int) (j : Nat) : Int := tz.getD j 0
/-- The spare link behind k releases. -/
def sp (spare : Int) (tz : List Int) : Nat → Int
  | 0 => spare
  | k + 1 => tzAt tz k
def stk (ns : Nat → Nd) (spare : Int) (tz : List Int) : Nat → Nat → Nd
  | 0 => ns
  | k + 1 => upd (stk ns spare tz k) (tzAt tz k).toNat ⟨0, 0, 0, 0, sp spare tz k, 0⟩
def nk (n : Int) : Nat → Int
  | 0 => n
  | k + 1 => wrap64 (nk n k - 1)
def tk (ns : Nat → Nd) (total : Int) (tz : List Int) : Nat → Int
  | 0 => total
  | k + 1 => wrap64 (tk ns total tz k - wrap64 ((ns (tzAt tz k).toNat).e - (ns (tzAt tz k).toNat).s))
/-- Is i among the first k? -/
def seenf (tz : List Int) (k i : Nat) : Bool := (List.range k).any fun j => (tzAt tz j).toNat == i
/-- The first k lie in range and differ. -/
structure Good (tz : List Int) (N k : Nat) : Prop where
  range : ∀ j, j < k → 1 ≤ tzAt tz j ∧ tzAt tz j < N
  fresh : ∀ j, j < k → seenf tz j (tzAt tz j).toNat = false

theorem seenf_succ (tz : List Int) (k i : Nat) : seenf tz (k + 1) i = (seenf tz k i || (tzAt tz k).toNat == i) := by
  unfold seenf; rw [List.range_succ, List.any_append]; simp
theorem seenf_false {tz : List Int} {k i : Nat} (h : seenf tz k i = false) : ∀ j, j < k → (tzAt tz j).toNat ≠ i := by
  intro j hj e
  unfold seenf at h
  rw [List.any_eq_false] at h
  exact h j (List.mem_range.2 hj) (by simp [e])
theorem stk_other (ns : Nat → Nd) (spare : Int) (tz : List Int) (k i : Nat) (h : seenf tz k i = false) : stk ns spare tz k i = ns i := by
  induction k with
  | zero => rfl
  | succ k ih =>
    rw [seenf_succ, Bool.or_eq_false_iff] at h
    simp only [stk, upd]
    rw [if_neg (fun e => by have := h.2; simp [e] at this), ih h.1]
theorem stk_hit (ns : Nat → Nd) (spare : Int) (tz : List Int) {N T : Nat} (hg : Good tz N T) (j k : Nat) (hjk : j < k) (hk : k ≤ T) :
    stk ns spare tz k (tzAt tz j).toNat = ⟨0, 0, 0, 0, sp spare tz j, 0⟩ := by
  induction k with
  | zero => omega
  | succ k ih =>
    simp only [stk, upd]
    by_cases e : j = k
    · subst e; rw [if_pos rfl]
    · rw [if_neg (fun e' => seenf_false (hg.fresh k (by omega)) j (by omega) e'), ih (by omega) (by omega)]
theorem nk_eq (n : Int) (h0 : -9223372036854775808 ≤ n) (h1 : n ≤ 9223372036854775807) (k : Nat) : nk n k = wrap64 (n - k) := by
  induction k with
  | zero => simp only [nk, wrap64]; omega
  | succ k ih => simp only [nk, ih, wrap64]; omega
def mix (ns : Nat → Nd) (k : Nat) : Nat → Nd := fun i => if i < k then ns i else Nd.zero
theorem mix_succ (ns : Nat → Nd) (k : Nat) : upd (mix ns k) k (ns k) = mix ns (k + 1) := by
  funext i
  unfold upd mix
  by_cases e : i = k
  · subst e; simp
  · rw [if_neg e]
    by_cases h : i < k
    · rw [if_pos h, if_pos (by omega)]
    · rw [if_neg h, if_neg (by omega)]
theorem mix_zero (ns : Nat → Nd) : mix ns 0 = fun _ => Nd.zero := by
  funext i; simp [mix]
/-- Only the first N nodes matter. -/
theorem Inv.congr {w : World} {F G N : Nat} {root spare n total : Int} {st st' : Nat → Nd} (h : Inv w F G N root spare n total st) (e : ∀ i, i < N → st i = st' i) : Inv w F G N root spare n total st' :=
  ⟨h.ne, h.ltF, h.ltG, h.f0, h.f1, h.f2, h.f3, h.f4, h.zF, h.zG, fun i hi => e i hi ▸ h.nd i hi⟩
theorem mix_full (ns : Nat → Nd) (N : Nat) : ∀ i, i < N → mix ns N i = ns i := fun i hi => by unfold mix; rw [if_pos hi]

/-! ### The seen row; the arguments -/
structure SeenAt (w : World) (S N : Nat) (f : Nat → Bool) : Prop where
  lt : S < w.heap.size
  cell : ∀ i, i < N → w.cell? ⟨S, i, none⟩ = some (.bool (f i))
  free : ∀ o, w.frozen? ⟨S, o, none⟩ = false
theorem SeenAt.below {w w' : World} {S N : Nat} {f : Nat → Bool} (h : SeenAt w S N f) (hb : Below w.heap.size w w') : SeenAt w' S N f :=
  ⟨Nat.lt_of_lt_of_le h.lt hb.size, fun i hi => (hb.cell (p := ⟨S, i, none⟩) h.lt).trans (h.cell i hi), fun o => (hb.frozen (p := ⟨S, o, none⟩) h.lt).trans (h.free o)⟩
theorem SeenAt.touch {w w' : World} {S N F G : Nat} {f : Nat → Bool} (h : SeenAt w S N f) (ht : Touch w w' F G) (hF : S ≠ F) (hG : S ≠ G) : SeenAt w' S N f := by
  have hb : w'.heap[S]? = w.heap[S]? := ht.block S hF hG h.lt
  exact ⟨Nat.lt_of_lt_of_le h.lt ht.size, fun i hi => (World.cell?_of_block (a := ⟨S, i, none⟩) hb).trans (h.cell i hi), fun o => (World.frozen?_of_block (a := ⟨S, o, none⟩) hb).trans (h.free o)⟩
theorem SeenAt.set {w : World} {S N : Nat} {tz : List Int} {k : Nat} (h : SeenAt w S N (seenf tz k)) (hk : (tzAt tz k).toNat < N) : SeenAt (w.setCell ⟨S, (tzAt tz k).toNat, none⟩ (.bool true)) S N (seenf tz (k + 1)) := by
  refine ⟨by simpa using h.lt, fun i hi => ?_, fun o => by simpa using h.free o⟩
  rw [seenf_succ]
  by_cases e : (tzAt tz k).toNat = i
  · subst e; rw [World.cell?_setCell_same _ _ _ (h.cell _ hk)]; simp
  · rw [World.cell?_setCell_other _ _ _ _ (fun e' => e (by cases e'; rfl)), h.cell i hi]
    have : ((tzAt tz k).toNat == i) = false := by simp [e]
    rw [this, Bool.or_false]
theorem seen_made {w : World} {base g N : Nat} (tz : List Int) (h : w.ownsRow base 4 1 (.slice (some ⟨g, 0, none⟩) N N) N (madeCells #[.bool false] N).toList) : SeenAt w g N (seenf tz 0) := by
  refine ⟨?_, fun i hi => ?_, fun o => h.frozenAt o⟩
  · obtain ⟨_, ⟨h0, _⟩ | ⟨g', cap, cur, h1, _, hh, _⟩⟩ := h
    · cases h0
    · cases h1; exact (Array.getElem?_eq_some_iff.1 hh).1
  · rw [h.cellAt i (by omega), toList_madeCells_one]
    simp [hi, seenf]
/-- The nodes that came in. -/
def NArg (w : World) (a : Option Addr) (N : Nat) (ns : Nat → Nd) : Prop :=
  0 < N → ∃ b off, a = some ⟨b, off, none⟩ ∧ b < w.heap.size ∧ ∀ i, i < N → NdAt w b (off + i * 6) (ns i)
def TArg (w : World) (a : Option Addr) (tz : List Int) : Prop :=
  0 < tz.length → ∃ b off, a = some ⟨b, off, none⟩ ∧ b < w.heap.size ∧ ∀ i, i < tz.length → w.cell? ⟨b, off + i, none⟩ = some (.int .i32 (tzAt tz i))
theorem NArg.below {w w' : World} {a : Option Addr} {N : Nat} {ns : Nat → Nd} (h : NArg w a N ns) (hb : Below w.heap.size w w') : NArg w' a N ns := by
  intro h0
  obtain ⟨b, off, e, hlt, hc⟩ := h h0
  exact ⟨b, off, e, Nat.lt_of_lt_of_le hlt hb.size, fun i hi => (hc i hi).of_cells fun k _ => hb.cell (p := ⟨b, off + i * 6 + k, none⟩) hlt⟩
theorem TArg.below {w w' : World} {a : Option Addr} {tz : List Int} (h : TArg w a tz) (hb : Below w.heap.size w w') : TArg w' a tz := by
  intro h0
  obtain ⟨b, off, e, hlt, hc⟩ := h h0
  exact ⟨b, off, e, Nat.lt_of_lt_of_le hlt hb.size, fun i hi => (hb.cell (p := ⟨b, off + i, none⟩) hlt).trans (hc i hi)⟩
theorem below_step {w w1 w2 : World} (h : Below w.heap.size w w1) (h2 : Below w1.heap.size w1 w2) : Below w.heap.size w w2 := h.trans (h2.mono h.size)
theorem below_touch {w w1 w2 : World} {F G : Nat} (h : Below w.heap.size w w1) (h2 : Touch w1 w2 F G) (hF : w.heap.size ≤ F) (hG : w.heap.size ≤ G) : Below w.heap.size w w2 := h.trans (h2.below hF hG h.size)
def IsB (e : Ending) : Prop := e = .returned (.bool true) ∨ e = .returned (.bool false)
theorem bytes_calls (a a2 : Option Addr) (N cap T cap2 : Nat) (root spare n total : Int) (w : World) :
    Calls Try.prog 4 #[.slice a N cap, .int .i32 root, .int .i32 spare, .int .i64 n, .int .i64 total, .slice a2 T cap2] w fun e w' => IsB e ∧ w = w' := by
  by_cases h1 : 1048576 < (N : Int)
  · go_enter Try.func4, Try.ntmps4
    go_wp2
    go_ret
    exact ⟨.inr rfl, rfl⟩
  by_cases h2 : 1048576 < (T : Int)
  · go_enter Try.func4, Try.ntmps4
    go_wp2
    go_ret
    exact ⟨.inr rfl, rfl⟩
  by_cases h3 : 1048576 < (N : Int) + T
  · go_enter Try.func4, Try.ntmps4
    go_wp2
    go_ret
    exact ⟨.inr rfl, rfl⟩
  · go_enter Try.func4, Try.ntmps4
    go_wp2
    go_ret
    exact ⟨.inl rfl, rfl⟩
end Go.Proofs.Qxb6617564a.rel
