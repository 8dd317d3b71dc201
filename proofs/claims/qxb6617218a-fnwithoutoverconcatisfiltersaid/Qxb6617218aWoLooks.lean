/-
  Walks of zStringsEqual and zIsFilterOf.
-/
import Derived.Test.Qxb6617218aWoWalks
namespace Go.Proofs.Qxb6617218a.wo
open Go.ChangeShapes Go.WideShapes Go.ChangeAt Go.RowKit
set_option linter.unusedVariables false

theorem equal_some (b off cap b2 off2 cap2 : Nat) (ss : List ByteArray) (w : World) (hlen : ss.length ≤ 1048576)
    (hc : ∀ i, i < ss.length → w.cell? ⟨b, off + i, none⟩ = some (.string (ss.getD i ByteArray.empty)))
    (hd : ∀ i, i < ss.length → w.cell? ⟨b2, off2 + i, none⟩ = some (.string (ss.getD i ByteArray.empty))) :
    Calls Try.prog 15 #[.slice (some ⟨b, off, none⟩) ss.length cap, .slice (some ⟨b2, off2, none⟩) ss.length cap2] w fun e w' => e = .returned (.bool true) ∧ ∃ n, w' = w.drewN n := by
  go_enter Try.func15, Try.ntmps15
  go_wp2
  go_loopw [5] (fun i wr => ∃ k n : Nat, k ≤ ss.length ∧ i = .int .i64 k ∧ wr = w.drewN n) (fun i _ => ss.length - (intOf i).toNat)
  case atStart => exact ⟨0, 0, Nat.zero_le _, rfl, rfl⟩
  case round =>
    obtain ⟨k, n, hk, rfl, rfl⟩ := hrel
    by_cases hlt : k < ss.length
    · have hck := hc k hlt
      have hdk := hd k hlt
      clear hc hd
      go_wp2
      go_quiet (fail)
      go_wp2
      go_roundw
      case rel => exact ⟨k + 1, _, by omega, by go_num, rfl⟩
      case measure => simp [intOf]; omega
    · go_wp2
      go_ret
      exact ⟨rfl, n, rfl⟩
theorem equal_calls (v v2 : Value) (ss : List ByteArray) (w : World) (hlen : ss.length ≤ 1048576) (hr : Row w v ss) (hr2 : Row w v2 ss) :
    Calls Try.prog 15 #[v, v2] w fun e w' => e = .returned (.bool true) ∧ ∃ n, w' = w.drewN n := by
  rcases hr with ⟨rfl, rfl⟩ | ⟨b, off, cap, rfl, hb, hc⟩ <;> rcases hr2 with ⟨rfl, h0⟩ | ⟨b2, off2, cap2, rfl, hb2, hd⟩
  · go_enter Try.func15, Try.ntmps15
    go_wp2
    refine wp_loop_rounds 1 ?_
    rw [rounds_succ]
    go_wp2
    go_ret
    exact ⟨rfl, 0, rfl⟩
  · clear hd
    go_enter Try.func15, Try.ntmps15
    go_wp2
    refine wp_loop_rounds 1 ?_
    rw [rounds_succ]
    go_wp2
    go_ret
    exact ⟨rfl, 0, rfl⟩
  · subst h0
    clear hc
    go_enter Try.func15, Try.ntmps15
    go_wp2
    refine wp_loop_rounds 1 ?_
    rw [rounds_succ]
    go_wp2
    go_ret
    exact ⟨rfl, 0, rfl⟩
  · exact equal_some b off cap b2 off2 cap2 ss w hlen hc hd

/-- Neither l nor m. -/
def p2 (l m s : ByteArray) : Bool := !same l s && !same m s
def cnt (l m : ByteArray) (ss : List ByteArray) : Nat := (ss.filter (p2 l m)).length
theorem cnt_take_succ (l m : ByteArray) (ss : List ByteArray) (k : Nat) (h : k < ss.length) : cnt l m (ss.take (k + 1)) = cnt l m (ss.take k) + (if p2 l m ss[k] then 1 else 0) := by
  unfold cnt
  rw [List.take_succ_eq_append_getElem h, List.filter_append]
  cases hs : p2 l m ss[k] <;> simp [hs]
theorem cnt_le (l m : ByteArray) (ss : List ByteArray) (k : Nat) : cnt l m (ss.take k) ≤ k :=
  Nat.le_trans (List.length_filter_le _ _) (List.length_take_le _ _)
theorem sub_cons {α : Type} {x y : α} {xs ys : List α} (h : (x :: xs).Sublist (y :: ys)) : (x :: xs).Sublist ys ∨ (x = y ∧ xs.Sublist ys) := by
  cases h with
  | cons _ h => exact .inl h
  | cons_cons _ h => exact .inr ⟨rfl, h⟩
theorem sub_skip {rs ss : List ByteArray} {k q : Nat} (hk : k < rs.length) (hq : q < ss.length) (h : (rs.drop k).Sublist (ss.drop q)) (hne : (ss[q].toList == rs[k].toList) = false) :
    (rs.drop k).Sublist (ss.drop (q + 1)) := by
  rw [List.drop_eq_getElem_cons hq, List.drop_eq_getElem_cons hk] at h
  rw [List.drop_eq_getElem_cons hk]
  rcases sub_cons h with h | ⟨e, h⟩
  · exact h
  · rw [e] at hne; simp at hne
theorem sub_hit {rs ss : List ByteArray} {k q : Nat} (hk : k < rs.length) (hq : q < ss.length) (h : (rs.drop k).Sublist (ss.drop q)) :
    (rs.drop (k + 1)).Sublist (ss.drop (q + 1)) := by
  rw [List.drop_eq_getElem_cons hq, List.drop_eq_getElem_cons hk] at h
  rcases sub_cons h with h | ⟨e, h⟩
  · exact (List.sublist_cons_self _ _).trans h
  · exact h
theorem sub_end {rs ss : List ByteArray} {k q : Nat} (hk : k < rs.length) (hq : ¬ q < ss.length) (h : (rs.drop k).Sublist (ss.drop q)) : False := by
  have := h.length_le
  simp at this; omega

set_option maxHeartbeats 800000 in
theorem filter_some (b off cap b2 off2 cap2 : Nat) (rs ss : List ByteArray) (l m : ByteArray) (w : World) (hlen : ss.length ≤ 1048576) (hlen2 : rs.length ≤ 1048576)
    (hc : ∀ i, i < rs.length → w.cell? ⟨b, off + i, none⟩ = some (.string (rs.getD i ByteArray.empty)))
    (hd : ∀ i, i < ss.length → w.cell? ⟨b2, off2 + i, none⟩ = some (.string (ss.getD i ByteArray.empty)))
    (hn : Hid (cnt l m ss = rs.length)) (hsub : Hid (rs.Sublist ss)) (hall : Hid (∀ x ∈ rs, p2 l m x = true)) :
    Calls Try.prog 13 #[.slice (some ⟨b, off, none⟩) rs.length cap, .slice (some ⟨b2, off2, none⟩) ss.length cap2, .string l, .string m] w fun e w' => e = .returned (.bool true) ∧ ∃ n, w' = w.drewN n := by
  go_enter Try.func13, Try.ntmps13
  go_wp2
  go_loop [9, 10] (fun c i => ∃ k : Nat, k ≤ ss.length ∧ i = .int .i64 k ∧ c = .int .i64 (cnt l m (ss.take k))) (fun _ i => ss.length - (intOf i).toNat)
  case atStart => exact ⟨0, Nat.zero_le _, rfl, rfl⟩
  case round =>
    obtain ⟨k, hk, rfl, rfl⟩ := hrel
    have hle := cnt_le l m ss k
    by_cases hlt : k < ss.length
    · have hdk := hd k hlt
      have HS : Hid (cnt l m (ss.take (k + 1)) = cnt l m (ss.take k) + (if p2 l m ss[k] then 1 else 0)) := cnt_take_succ l m ss k hlt
      clear hc hd
      cases ht : (ss[k].toList == l.toList)
      · cases ht2 : (ss[k].toList == m.toList)
        · have HT : Hid (p2 l m ss[k] = true) := by show p2 l m ss[k] = true; simp [p2, same, ht, ht2]
          go_wp2
          go_round
          case rel => exact ⟨k + 1, by omega, by go_num, by rw [HS.out, HT.out]; go_num⟩
          case measure => simp [intOf]; omega
        · have HT : Hid (p2 l m ss[k] = false) := by show p2 l m ss[k] = false; simp [p2, same, ht2]
          go_wp2
          go_round
          case rel => exact ⟨k + 1, by omega, by go_num, by rw [HS.out, HT.out]; rfl⟩
          case measure => simp [intOf]; omega
      · have HT : Hid (p2 l m ss[k] = false) := by show p2 l m ss[k] = false; simp [p2, same, ht]
        go_wp2
        go_round
        case rel => exact ⟨k + 1, by omega, by go_num, by rw [HS.out, HT.out]; rfl⟩
        case measure => simp [intOf]; omega
    · have hkk : cnt l m (ss.take k) = rs.length := by rw [List.take_of_length_le (by omega)]; exact hn.out
      go_wp2
      go_loopw [11, 12] (fun p i wr => ∃ k q n : Nat, k ≤ rs.length ∧ i = .int .i64 k ∧ q ≤ ss.length ∧ p = .int .i64 q ∧ Hid ((rs.drop k).Sublist (ss.drop q)) ∧ wr = w.drewN n) (fun _ i _ => rs.length - (intOf i).toNat)
      case atStart => exact ⟨0, 0, 0, Nat.zero_le _, rfl, Nat.zero_le _, rfl, hsub, rfl⟩
      case round =>
        obtain ⟨k, q, n, hk, rfl, hq, rfl, HB, rfl⟩ := hrel
        by_cases hlt : k < rs.length
        · have hck := hc k hlt
          have hp := hall.out rs[k] (List.getElem_mem hlt)
          have t1 : (rs[k].toList == l.toList) = false := by simp [p2, same] at hp; simpa using hp.1
          have t2 : (rs[k].toList == m.toList) = false := by simp [p2, same] at hp; simpa using hp.2
          clear hp hc
          go_wp2
          go_loopw [11] (fun p wr => ∃ q n : Nat, q ≤ ss.length ∧ p = .int .i64 q ∧ Hid ((rs.drop k).Sublist (ss.drop q)) ∧ wr = w.drewN n) (fun p _ => ss.length - (intOf p).toNat)
          case atStart => exact ⟨q, n, hq, rfl, HB, rfl⟩
          case round =>
            clear HB hq
            obtain ⟨q, n, hq, rfl, HB, rfl⟩ := hrel
            by_cases hql : q < ss.length
            · have hdq := hd q hql
              clear hd
              cases ht : (ss[q].toList == rs[k].toList)
              · have HT : Hid ((ss[q].toList == rs[k].toList) = false) := ht
                go_wp2
                go_quiet (fail)
                go_wp2
                go_roundw
                case rel => exact ⟨q + 1, _, by omega, by go_num, sub_skip hlt hql HB.out HT.out, rfl⟩
                case measure => simp [intOf]; omega
              · have hne : ((q : Int) == (ss.length : Int)) = false := by simp; omega
                go_wp2
                go_quiet (fail)
                go_wp2
                go_roundw
                case rel => exact ⟨k + 1, q + 1, _, by omega, by go_num, by omega, by go_num, sub_hit hlt hql HB.out, rfl⟩
                case measure => simp [intOf]; omega
            · exact (sub_end hlt hql HB.out).elim
        · go_wp2
          go_ret
          exact ⟨rfl, n, rfl⟩

theorem filter_empty (b2 off2 cap2 : Nat) (va : Option Addr) (cap : Nat) (ss : List ByteArray) (l m : ByteArray) (w : World) (hlen : ss.length ≤ 1048576)
    (hd : ∀ i, i < ss.length → w.cell? ⟨b2, off2 + i, none⟩ = some (.string (ss.getD i ByteArray.empty)))
    (hn : Hid (cnt l m ss = 0)) :
    Calls Try.prog 13 #[.slice va 0 cap, .slice (some ⟨b2, off2, none⟩) ss.length cap2, .string l, .string m] w fun e w' => e = .returned (.bool true) ∧ ∃ n, w' = w.drewN n := by
  go_enter Try.func13, Try.ntmps13
  go_wp2
  go_loop [9, 10] (fun c i => ∃ k : Nat, k ≤ ss.length ∧ i = .int .i64 k ∧ c = .int .i64 (cnt l m (ss.take k))) (fun _ i => ss.length - (intOf i).toNat)
  case atStart => exact ⟨0, Nat.zero_le _, rfl, rfl⟩
  case round =>
    obtain ⟨k, hk, rfl, rfl⟩ := hrel
    have hle := cnt_le l m ss k
    by_cases hlt : k < ss.length
    · have hdk := hd k hlt
      have HS : Hid (cnt l m (ss.take (k + 1)) = cnt l m (ss.take k) + (if p2 l m ss[k] then 1 else 0)) := cnt_take_succ l m ss k hlt
      clear hd
      cases ht : (ss[k].toList == l.toList)
      · cases ht2 : (ss[k].toList == m.toList)
        · have HT : Hid (p2 l m ss[k] = true) := by show p2 l m ss[k] = true; simp [p2, same, ht, ht2]
          go_wp2
          go_round
          case rel => exact ⟨k + 1, by omega, by go_num, by rw [HS.out, HT.out]; go_num⟩
          case measure => simp [intOf]; omega
        · have HT : Hid (p2 l m ss[k] = false) := by show p2 l m ss[k] = false; simp [p2, same, ht2]
          go_wp2
          go_round
          case rel => exact ⟨k + 1, by omega, by go_num, by rw [HS.out, HT.out]; rfl⟩
          case measure => simp [intOf]; omega
      · have HT : Hid (p2 l m ss[k] = false) := by show p2 l m ss[k] = false; simp [p2, same, ht]
        go_wp2
        go_round
        case rel => exact ⟨k + 1, by omega, by go_num, by rw [HS.out, HT.out]; rfl⟩
        case measure => simp [intOf]; omega
    · have hkk : cnt l m (ss.take k) = 0 := by rw [List.take_of_length_le (by omega)]; exact hn.out
      go_wp2
      refine wp_loop_rounds 1 ?_
      rw [rounds_succ]
      go_wp2
      go_ret
      exact ⟨rfl, 0, rfl⟩
theorem filter_nil (va vb : Option Addr) (cap cap2 : Nat) (l m : ByteArray) (w : World) :
    Calls Try.prog 13 #[.slice va 0 cap, .slice vb 0 cap2, .string l, .string m] w fun e w' => e = .returned (.bool true) ∧ ∃ n, w' = w.drewN n := by
  go_enter Try.func13, Try.ntmps13
  go_wp2
  refine wp_loop_rounds 1 ?_
  rw [rounds_succ]
  go_wp2
  refine wp_loop_rounds 1 ?_
  rw [rounds_succ]
  go_wp2
  go_ret
  exact ⟨rfl, 0, rfl⟩
theorem filter_calls (v v2 : Value) (ss rs : List ByteArray) (l m : ByteArray) (w : World) (hrs : rs = ss.filter (p2 l m)) (hlen : ss.length ≤ 1048576) (hr : Row w v rs) (hr2 : Row w v2 ss) :
    Calls Try.prog 13 #[v, v2, .string l, .string m] w fun e w' => e = .returned (.bool true) ∧ ∃ n, w' = w.drewN n := by
  have hle : rs.length ≤ ss.length := by rw [hrs]; exact List.length_filter_le _ _
  rcases hr2 with ⟨rfl, rfl⟩ | ⟨b2, off2, cap2, rfl, hb2, hd⟩
  · obtain rfl : rs = [] := hrs
    rcases hr with ⟨rfl, _⟩ | ⟨b, off, cap, rfl, hb, hc⟩
    · exact filter_nil _ _ _ _ l m w
    · exact filter_nil _ _ _ _ l m w
  · rcases hr with ⟨rfl, rfl⟩ | ⟨b, off, cap, rfl, hb, hc⟩
    · refine filter_empty b2 off2 cap2 none 0 ss l m w hlen hd ?_
      show (ss.filter (p2 l m)).length = 0
      rw [← hrs]; rfl
    · refine filter_some b off cap b2 off2 cap2 rs ss l m w hlen (by omega) hc hd ?_ ?_ ?_
      · show (ss.filter (p2 l m)).length = rs.length
        rw [← hrs]
      · show rs.Sublist ss
        rw [hrs]; exact List.filter_sublist
      · show ∀ x ∈ rs, p2 l m x = true
        intro x hx; rw [hrs] at hx; exact (List.mem_filter.1 hx).2
end Go.Proofs.Qxb6617218a.wo
