/-
  The walks that the two 'without' laws share: among, without; what a slice of strings is.
-/
import Derived.Test.Qxb6617218aRows
import Derived.WalkKit
import Derived.ProofKit
import Derived.OpenShut
import Derived.ShutString
import Derived.Handy
import Derived.BigQuiet
import Derived.WalkSpells
import Derived.WalkLawsBesides
namespace Go.Proofs.Qxb6617218a.wo
open Go.ChangeShapes Go.WideShapes Go.ChangeAt Go.RowKit
set_option linter.unusedVariables false

/-! ### Plain lists -/
/-- Go's '==' on strings: byte for byte. -/
def same (l s : ByteArray) : Bool := s.toList == l.toList
/-- 'without': all but l. -/
def wl (l : ByteArray) (ss : List ByteArray) : List ByteArray := ss.filter fun s => !same l s
theorem any_take_succ (ss : List ByteArray) (p : ByteArray → Bool) (k : Nat) (h : k < ss.length) : (ss.take (k + 1)).any p = ((ss.take k).any p || p ss[k]) := by
  rw [List.take_succ_eq_append_getElem h, List.any_append]; simp only [List.any_cons, List.any_nil, Bool.or_false]
theorem wl_take_succ (l : ByteArray) (ss : List ByteArray) (k : Nat) (h : k < ss.length) :
    wl l (ss.take (k + 1)) = wl l (ss.take k) ++ (if same l ss[k] then [] else [ss[k]]) := by
  unfold wl
  rw [List.take_succ_eq_append_getElem h, List.filter_append]
  cases hs : same l ss[k] <;> simp [hs]
theorem wl_le (l : ByteArray) (ss : List ByteArray) : (wl l ss).length ≤ ss.length := List.length_filter_le _ _
theorem wl_none (l : ByteArray) (ss : List ByteArray) (h : ss.any (same l) = false) : wl l ss = ss := by
  unfold wl
  rw [List.filter_eq_self]
  intro s hs
  rw [List.any_eq_false] at h
  simpa using h s hs
theorem any_of (ss : List ByteArray) (p : ByteArray → Bool) (k : Nat) (h : k < ss.length) (hp : p ss[k] = true) : ss.any p = true :=
  List.any_eq_true.2 ⟨ss[k], List.getElem_mem h, hp⟩

/-! ### The walks -/
theorem ret_bool {a b : Bool} (h : a = b) : Ending.returned (.bool a) = .returned (.bool b) := by rw [h]
/-- The value v is a slice of the strings ss, in the world w. -/
def Row (w : World) (v : Value) (ss : List ByteArray) : Prop :=
  (v = .slice none 0 0 ∧ ss = []) ∨ ∃ b off cap, v = .slice (some ⟨b, off, none⟩) ss.length cap ∧ b < w.heap.size ∧ ∀ i, i < ss.length → w.cell? ⟨b, off + i, none⟩ = some (.string (ss.getD i ByteArray.empty))

theorem among_some (b off cap : Nat) (ss : List ByteArray) (l : ByteArray) (w : World) (hlen : ss.length ≤ 1048576)
    (hc : ∀ i, i < ss.length → w.cell? ⟨b, off + i, none⟩ = some (.string (ss.getD i ByteArray.empty))) :
    Calls Try.prog 30 #[.slice (some ⟨b, off, none⟩) ss.length cap, .string l] w fun e w' => e = .returned (.bool (ss.any (same l))) ∧ w = w' := by
  go_enter Try.func30, Try.ntmps30
  go_wp2
  go_loop [6, 9] (fun _ i => ∃ k : Nat, k ≤ ss.length ∧ i = .int .i64 k ∧ Hid ((ss.take k).any (same l) = false)) (fun _ i => ss.length - (intOf i).toNat)
  case atStart => exact ⟨0, Nat.zero_le _, rfl, rfl⟩
  case round =>
    obtain ⟨k, hk, rfl, H⟩ := hrel
    by_cases hlt : k < ss.length
    · have hck := hc k hlt
      have HC : Hid (∀ i, i < ss.length → w.cell? ⟨b, off + i, none⟩ = some (.string (ss.getD i ByteArray.empty))) := hc
      clear hc
      cases ht : (ss[k].toList == l.toList)
      · have HT : Hid (same l ss[k] = false) := ht
        go_wp2
        go_round
        case rel => exact ⟨k + 1, by omega, by go_num, (by rw [any_take_succ ss _ k hlt, H.out, HT.out]; rfl : _ = _)⟩
        case measure => simp [intOf]; omega
      · have HT : Hid (same l ss[k] = true) := ht
        go_wp2
        go_ret
        exact ⟨ret_bool (any_of ss _ k hlt HT.out).symm, rfl⟩
    · go_wp2
      go_ret
      refine ⟨ret_bool ?_, rfl⟩
      have := H.out
      rw [List.take_of_length_le (by omega)] at this
      exact this.symm

theorem among_calls (v : Value) (ss : List ByteArray) (l : ByteArray) (w : World) (hr : Row w v ss) (hlen : ss.length ≤ 1048576) :
    Calls Try.prog 30 #[v, .string l] w fun e w' => e = .returned (.bool (ss.any (same l))) ∧ w = w' := by
  rcases hr with ⟨rfl, rfl⟩ | ⟨b, off, cap, rfl, hb, hc⟩
  · go_enter Try.func30, Try.ntmps30
    go_wp2
    refine wp_loop_rounds 1 ?_
    rw [rounds_succ]
    go_wp2
    go_ret
    exact ⟨rfl, rfl⟩
  · exact among_some b off cap ss l w hlen hc

theorem Try.info9 : (Try.prog.info? 9).map (fun i => (i.zero, i.size, i.bytes)) = some (some (.string ByteArray.empty), 1, 16) := by kernel_rfl

theorem row_of_own {w : World} {base : Nat} {v : Value} {ss : List ByteArray} (h : w.ownsRow base 9 1 v ss.length (ss.map Value.string)) : Row w v ss := by
  obtain ⟨hl, ⟨rfl, hn⟩ | ⟨g, cap, cur, rfl, hbase, hh, hcap, hmax, hsz, htake⟩⟩ := h
  · exact .inl ⟨rfl, List.eq_nil_of_length_eq_zero hn⟩
  · have hown : w.ownsRow base 9 1 (.slice (some ⟨g, 0, none⟩) ss.length cap) ss.length (ss.map Value.string) := ⟨hl, .inr ⟨g, cap, cur, rfl, hbase, hh, hcap, hmax, hsz, htake⟩⟩
    refine .inr ⟨g, 0, cap, rfl, ?_, fun i hi => ?_⟩
    · exact (Array.getElem?_eq_some_iff.1 hh).1
    · have := hown.cellAt i (by omega)
      rw [Nat.zero_add, this]
      simp [hi]

theorem own_ge {w : World} {base e size n : Nat} {v : Value} {xs : List Value} (h : w.ownsRow base e size v n xs) : ∀ k, v.ownBlock = some k → base ≤ k := by
  obtain ⟨_, ⟨rfl, _⟩ | ⟨g, cap, cur, rfl, hb, _⟩⟩ := h
  · intro k hk; cases hk
  · intro k hk; cases hk; exact hb
/-- What an append of one string does to what is gathered. -/
theorem own_keep {w wr w1 : World} {u v' : Value} {K K' : List ByteArray} {s : ByteArray} {o : Obj} {B : Nat} (hK : K' = K ++ [s]) (hnx : Below B w wr) (hB : B ≤ wr.heap.size) (hown : wr.ownsRow B 9 1 u K.length (K.map Value.string))
    (hown' : w1.ownsRow B 9 1 v' (K.length + 1) (K.map Value.string ++ [Value.string s])) (hgrow : (wr.alloc o).grownBy w1 u.ownBlock) :
    w1.ownsRow B 9 1 v' K'.length (K'.map Value.string) ∧ Below B w w1 := by
  subst hK
  refine ⟨by simpa using hown', ?_⟩
  exact (hnx.alloc hB o).grown hgrow (by simp; omega) (own_ge hown)
set_option maxHeartbeats 400000 in
theorem without_some (b off cap : Nat) (ss : List ByteArray) (l : ByteArray) (w : World) (hlen : ss.length ≤ 1048576) (hb : b < w.heap.size)
    (hc : ∀ i, i < ss.length → w.cell? ⟨b, off + i, none⟩ = some (.string (ss.getD i ByteArray.empty))) (ha : ss.any (same l) = true) :
    Calls Try.prog 12 #[.slice (some ⟨b, off, none⟩) ss.length cap, .string l] w fun e w' => ∃ v, e = .returned v ∧ Row w' v (wl l ss) ∧ Below w.heap.size w w' := by
  obtain ⟨i0, hi, hz0, hz1, hz2⟩ := info_parts Try.info9
  go_enter Try.func12, Try.ntmps12
  go_wp2_with (first | (go_at_call 30; refine (among_some _ _ _ _ _ _ hlen hc).mono ?_; rintro e w' ⟨rfl, rfl⟩) | go_in)
  go_loopw [5, 7, 15] (fun v _ i wr => ∃ k : Nat, k ≤ ss.length ∧ i = .int .i64 k ∧ wr.ownsRow w.heap.size 9 1 v (wl l (ss.take k)).length ((wl l (ss.take k)).map Value.string) ∧ Below w.heap.size w wr) (fun _ _ i _ => ss.length - (intOf i).toNat)
  case atStart => exact ⟨0, Nat.zero_le _, rfl, World.ownsRow_nil _ _ _ _, Below.refl _ _⟩
  case round =>
    obtain ⟨k, hk, rfl, hown, hnx⟩ := hrel
    have hle := wl_le l (ss.take k)
    have hle2 : (ss.take k).length ≤ k := List.length_take_le _ _
    by_cases hlt : k < ss.length
    · have hck : wr.cell? ⟨b, off + k, none⟩ = some (.string (ss.getD k ByteArray.empty)) := (hnx.cell (by exact hb)).trans (hc k hlt)
      have HS : Hid (wl l (ss.take (k + 1)) = wl l (ss.take k) ++ (if same l ss[k] then [] else [ss[k]])) := wl_take_succ l ss k hlt
      clear hc
      cases ht : (ss[k].toList == l.toList)
      · have HT : Hid (same l ss[k] = false) := ht
        generalize hK : wl l (ss.take k) = K at *
        clear hK
        go_wp2_with (at_builtin; refine wpList_append_own _ rfl _ _ 26 rfl w.heap.size 9 i0 (.string ByteArray.empty) 1 16 Try.underlying26 hi hz0 hz1 hz2 rfl (by decide) _ _ _ rfl (hown.alloc _) ⟨wr.heap.size, 0, none⟩ 1 1 [.string ss[k]] rfl rfl ?c1 ?c2 ?c3 ?c4 ?c5 ?_)
        case c1 => exact cell_one_new _ _ _
        case c2 => intro u hu; simp at hu; subst hu; rfl
        case c3 => unfold maxLen; omega
        case c4 => omega
        case c5 => have := hnx.size; simp; omega
        intro v' w1 hown' hgrow _
        have R := own_keep (K' := wl l (ss.take (k + 1))) (by rw [HS.out, HT.out]; rfl) hnx (by have := hnx.size; omega) hown hown' hgrow
        clear hown' hgrow hown hck
        go_wp2
        go_roundw
        case rel => exact ⟨k + 1, by omega, by go_num, R.1, R.2⟩
        case measure => simp [intOf]; omega
      · have HT : Hid (same l ss[k] = true) := ht
        have R : wl l (ss.take (k + 1)) = wl l (ss.take k) := by rw [HS.out, HT.out]; simp
        have hown2 : wr.ownsRow w.heap.size 9 1 u5 (wl l (ss.take (k + 1))).length ((wl l (ss.take (k + 1))).map Value.string) := by rw [R]; exact hown
        clear hown R
        go_wp2
        go_roundw
        case rel => exact ⟨k + 1, by omega, by go_num, hown2, hnx⟩
        case measure => simp [intOf]; omega
    · have hfin : wr.ownsRow w.heap.size 9 1 u5 (wl l ss).length ((wl l ss).map Value.string) := by
        rw [List.take_of_length_le (by omega)] at hown; exact hown
      clear hown hle hle2
      go_wp2
      go_ret
      exact ⟨_, rfl, row_of_own hfin, hnx⟩
theorem without_calls (v : Value) (ss : List ByteArray) (l : ByteArray) (w : World) (hr : Row w v ss) (hlen : ss.length ≤ 1048576) :
    Calls Try.prog 12 #[v, .string l] w fun e w' => ∃ v', e = .returned v' ∧ Row w' v' (wl l ss) ∧ Below w.heap.size w w' := by
  cases ha : ss.any (same l)
  · have hr' := hr
    rw [← wl_none l ss ha] at hr'
    have HR : Hid (Row w v (wl l ss)) := hr'
    clear hr'
    have HA : Hid (ss.any (same l) = false) := ha
    go_enter Try.func12, Try.ntmps12
    go_wp2_with (first | (go_at_call 30; refine (among_calls v ss l _ hr hlen).mono ?_; rintro e w' ⟨rfl, rfl⟩) | go_in)
    go_ret
    exact ⟨_, rfl, HR.out, Below.refl _ _⟩
  · rcases hr with ⟨rfl, rfl⟩ | ⟨b, off, cap, rfl, hb, hc⟩
    · cases ha
    · exact without_some b off cap ss l w hlen hb hc ha
end Go.Proofs.Qxb6617218a.wo
