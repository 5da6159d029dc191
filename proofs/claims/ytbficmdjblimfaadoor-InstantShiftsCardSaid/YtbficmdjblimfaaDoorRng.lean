/-
  instant's ranges and the reference's InRange by their contracts. Laid by wip/gen/rng.py.
-/
import Derived.Test.YtbficmdjblimfaaDoorSec
import Derived.LoopN
import Derived.Deep.QuietTactic
namespace Go.Proofs.YtbficmdjblimfaaDoor
open Go.RowKit
theorem most_0 (w : World) : (Instr.index 67 (.agg #[.int .i64 23, .int .i64 59, .int .i64 59, .int .i64 23, .int .i64 59]) (.int .i64 0)).run Tryd.prog w = .ok (.int .i64 23) w := by kernel_rfl
theorem most_1 (w : World) : (Instr.index 67 (.agg #[.int .i64 23, .int .i64 59, .int .i64 59, .int .i64 23, .int .i64 59]) (.int .i64 1)).run Tryd.prog w = .ok (.int .i64 59) w := by kernel_rfl
theorem most_2 (w : World) : (Instr.index 67 (.agg #[.int .i64 23, .int .i64 59, .int .i64 59, .int .i64 23, .int .i64 59]) (.int .i64 2)).run Tryd.prog w = .ok (.int .i64 59) w := by kernel_rfl
theorem most_3 (w : World) : (Instr.index 67 (.agg #[.int .i64 23, .int .i64 59, .int .i64 59, .int .i64 23, .int .i64 59]) (.int .i64 3)).run Tryd.prog w = .ok (.int .i64 23) w := by kernel_rfl
theorem most_4 (w : World) : (Instr.index 67 (.agg #[.int .i64 23, .int .i64 59, .int .i64 59, .int .i64 23, .int .i64 59]) (.int .i64 4)).run Tryd.prog w = .ok (.int .i64 59) w := by kernel_rfl
set_option maxRecDepth 100000 in
set_option maxHeartbeats 8000000 in
theorem ranges_any (m : Ins.M) (w : World) (h1 : m.y ≤ 9999) (h2 : m.mo ≤ 99) (h3 : m.d ≤ 99) (h8 : m.date = true ∨ m.time = true) :
    Calls Tryd.prog 25 #[momV m] w fun e w' => e = .returned (.bool m.ranges) ∧ Below w.heap.size w w' := by
  have HD := Lib.hid (fun w1 => days_any m.y m.mo m.d (by omega) (by omega) (by omega) w1)
  unfold dayR at HD
  obtain ⟨date, time, y, mo, d, hh, mi, s, ns, z, zh, zm⟩ := m
  simp only at h1 h2 h3 h8 HD
  unfold Ins.M.ranges momV shape
  simp only
  have i0 := most_0
  have i1 := most_1
  have i2 := most_2
  have i3 := most_3
  have i4 := most_4
  cases date with
  | true =>
    have hsh : ((if true = true then 1 else 0) + (if time = true then 2 else 0) : Nat) = 1 ∨ ((if true = true then 1 else 0) + (if time = true then 2 else 0) : Nat) = 3 := by cases time <;> simp
    generalize ((if true = true then 1 else 0) + (if time = true then 2 else 0) : Nat) = sh at *
    have hs2 : ((sh : Int) != 2) = true := by rw [bne_iff_ne]; omega
    clear hsh h8
    by_cases hd : Ins.dateOk y mo d
    · rw [if_pos hd] at HD
      rw [decide_eq_true hd]
      simp only [Bool.not_true, Bool.false_or, Bool.true_and]
      clear hd
      generalize ((Ins.days y mo d : Int) - 719528) = D at *
      · by_cases g0 : hh ≤ 23
        · by_cases g1 : mi ≤ 59
          · by_cases g2 : s ≤ 59
            · by_cases g3 : zh ≤ 23
              · by_cases g4 : zm ≤ 59
                · rw [decide_eq_true g0, decide_eq_true g1, decide_eq_true g2, decide_eq_true g3, decide_eq_true g4]
                  simp only [Bool.and_true, Bool.and_self, Bool.not_true, Bool.not_false, Bool.or_true, Bool.true_or]
                  go_enter Tryd.func25, Tryd.ntmps25
                  go_wp2_with (go_at_call 39; with_reducible refine (HD.out _).mono ?_; rintro e w3 ⟨rfl, hb3⟩; obtain ⟨c0, c1, c2, c3, c4, c5, c6, c7, c8, c9, c10, hb4⟩ := momKeep (Blk.new _ _ _) hb3; have hlt := Nat.lt_of_lt_of_le (Blk.new _ _ _).lt hb4.size)
                  refine wp_loop_rounds 6 ?_
                  rw [rounds_succ]
                  go_wp2_with fail
                  rw [rounds_succ]
                  go_wp2_with fail
                  rw [rounds_succ]
                  go_wp2_with fail
                  rw [rounds_succ]
                  go_wp2_with fail
                  rw [rounds_succ]
                  go_wp2_with fail
                  rw [rounds_succ]
                  go_wp2_with fail
                  go_ret
                  exact ⟨rfl, ((below_alloc _).trans (hb4.mono (below_alloc _).size)).trans ((below_alloc _).mono (Nat.le_trans (below_alloc _).size hb4.size))⟩
                · rw [decide_eq_false g4]
                  simp only [Bool.and_false, Bool.false_and]
                  go_enter Tryd.func25, Tryd.ntmps25
                  go_wp2_with (go_at_call 39; with_reducible refine (HD.out _).mono ?_; rintro e w3 ⟨rfl, hb3⟩; obtain ⟨c0, c1, c2, c3, c4, c5, c6, c7, c8, c9, c10, hb4⟩ := momKeep (Blk.new _ _ _) hb3; have hlt := Nat.lt_of_lt_of_le (Blk.new _ _ _).lt hb4.size)
                  refine wp_loop_rounds 6 ?_
                  rw [rounds_succ]
                  go_wp2_with fail
                  rw [rounds_succ]
                  go_wp2_with fail
                  rw [rounds_succ]
                  go_wp2_with fail
                  rw [rounds_succ]
                  go_wp2_with fail
                  rw [rounds_succ]
                  go_wp2_with fail
                  go_ret
                  exact ⟨rfl, ((below_alloc _).trans (hb4.mono (below_alloc _).size)).trans ((below_alloc _).mono (Nat.le_trans (below_alloc _).size hb4.size))⟩
              · rw [decide_eq_false g3]
                simp only [Bool.and_false, Bool.false_and]
                go_enter Tryd.func25, Tryd.ntmps25
                go_wp2_with (go_at_call 39; with_reducible refine (HD.out _).mono ?_; rintro e w3 ⟨rfl, hb3⟩; obtain ⟨c0, c1, c2, c3, c4, c5, c6, c7, c8, c9, c10, hb4⟩ := momKeep (Blk.new _ _ _) hb3; have hlt := Nat.lt_of_lt_of_le (Blk.new _ _ _).lt hb4.size)
                refine wp_loop_rounds 6 ?_
                rw [rounds_succ]
                go_wp2_with fail
                rw [rounds_succ]
                go_wp2_with fail
                rw [rounds_succ]
                go_wp2_with fail
                rw [rounds_succ]
                go_wp2_with fail
                go_ret
                exact ⟨rfl, ((below_alloc _).trans (hb4.mono (below_alloc _).size)).trans ((below_alloc _).mono (Nat.le_trans (below_alloc _).size hb4.size))⟩
            · rw [decide_eq_false g2]
              simp only [Bool.and_false, Bool.false_and]
              go_enter Tryd.func25, Tryd.ntmps25
              go_wp2_with (go_at_call 39; with_reducible refine (HD.out _).mono ?_; rintro e w3 ⟨rfl, hb3⟩; obtain ⟨c0, c1, c2, c3, c4, c5, c6, c7, c8, c9, c10, hb4⟩ := momKeep (Blk.new _ _ _) hb3; have hlt := Nat.lt_of_lt_of_le (Blk.new _ _ _).lt hb4.size)
              refine wp_loop_rounds 6 ?_
              rw [rounds_succ]
              go_wp2_with fail
              rw [rounds_succ]
              go_wp2_with fail
              rw [rounds_succ]
              go_wp2_with fail
              go_ret
              exact ⟨rfl, ((below_alloc _).trans (hb4.mono (below_alloc _).size)).trans ((below_alloc _).mono (Nat.le_trans (below_alloc _).size hb4.size))⟩
          · rw [decide_eq_false g1]
            simp only [Bool.and_false, Bool.false_and]
            go_enter Tryd.func25, Tryd.ntmps25
            go_wp2_with (go_at_call 39; with_reducible refine (HD.out _).mono ?_; rintro e w3 ⟨rfl, hb3⟩; obtain ⟨c0, c1, c2, c3, c4, c5, c6, c7, c8, c9, c10, hb4⟩ := momKeep (Blk.new _ _ _) hb3; have hlt := Nat.lt_of_lt_of_le (Blk.new _ _ _).lt hb4.size)
            refine wp_loop_rounds 6 ?_
            rw [rounds_succ]
            go_wp2_with fail
            rw [rounds_succ]
            go_wp2_with fail
            go_ret
            exact ⟨rfl, ((below_alloc _).trans (hb4.mono (below_alloc _).size)).trans ((below_alloc _).mono (Nat.le_trans (below_alloc _).size hb4.size))⟩
        · rw [decide_eq_false g0]
          simp only [Bool.and_false, Bool.false_and]
          go_enter Tryd.func25, Tryd.ntmps25
          go_wp2_with (go_at_call 39; with_reducible refine (HD.out _).mono ?_; rintro e w3 ⟨rfl, hb3⟩; obtain ⟨c0, c1, c2, c3, c4, c5, c6, c7, c8, c9, c10, hb4⟩ := momKeep (Blk.new _ _ _) hb3; have hlt := Nat.lt_of_lt_of_le (Blk.new _ _ _).lt hb4.size)
          refine wp_loop_rounds 6 ?_
          rw [rounds_succ]
          go_wp2_with fail
          go_ret
          exact ⟨rfl, ((below_alloc _).trans (hb4.mono (below_alloc _).size)).trans ((below_alloc _).mono (Nat.le_trans (below_alloc _).size hb4.size))⟩
    · rw [if_neg hd] at HD
      rw [decide_eq_false hd]
      simp only [Bool.not_true, Bool.false_or, Bool.false_and]
      clear hd
      go_enter Tryd.func25, Tryd.ntmps25
      go_wp2_with (go_at_call 39; with_reducible refine (HD.out _).mono ?_; rintro e w3 ⟨rfl, hb3⟩; obtain ⟨c0, c1, c2, c3, c4, c5, c6, c7, c8, c9, c10, hb4⟩ := momKeep (Blk.new _ _ _) hb3; have hlt := Nat.lt_of_lt_of_le (Blk.new _ _ _).lt hb4.size)
      go_ret
      exact ⟨rfl, (below_alloc _).trans (hb4.mono (below_alloc _).size)⟩
  | false =>
    obtain rfl : time = true := by rcases h8 with h8 | h8; cases h8; exact h8
    simp only [Bool.not_false, Bool.true_or, Bool.true_and, if_true, Bool.false_eq_true, if_false, Nat.zero_add]
    clear HD h8
    · by_cases g0 : hh ≤ 23
      · by_cases g1 : mi ≤ 59
        · by_cases g2 : s ≤ 59
          · by_cases g3 : zh ≤ 23
            · by_cases g4 : zm ≤ 59
              · rw [decide_eq_true g0, decide_eq_true g1, decide_eq_true g2, decide_eq_true g3, decide_eq_true g4]
                simp only [Bool.and_true, Bool.and_self, Bool.not_true, Bool.not_false, Bool.or_true, Bool.true_or]
                go_enter Tryd.func25, Tryd.ntmps25
                go_wp2_with fail
                refine wp_loop_rounds 6 ?_
                rw [rounds_succ]
                go_wp2_with fail
                rw [rounds_succ]
                go_wp2_with fail
                rw [rounds_succ]
                go_wp2_with fail
                rw [rounds_succ]
                go_wp2_with fail
                rw [rounds_succ]
                go_wp2_with fail
                rw [rounds_succ]
                go_wp2_with fail
                go_ret
                exact ⟨rfl, (below_alloc _).trans ((below_alloc _).mono (below_alloc _).size)⟩
              · rw [decide_eq_false g4]
                simp only [Bool.and_false, Bool.false_and]
                go_enter Tryd.func25, Tryd.ntmps25
                go_wp2_with fail
                refine wp_loop_rounds 6 ?_
                rw [rounds_succ]
                go_wp2_with fail
                rw [rounds_succ]
                go_wp2_with fail
                rw [rounds_succ]
                go_wp2_with fail
                rw [rounds_succ]
                go_wp2_with fail
                rw [rounds_succ]
                go_wp2_with fail
                go_ret
                exact ⟨rfl, (below_alloc _).trans ((below_alloc _).mono (below_alloc _).size)⟩
            · rw [decide_eq_false g3]
              simp only [Bool.and_false, Bool.false_and]
              go_enter Tryd.func25, Tryd.ntmps25
              go_wp2_with fail
              refine wp_loop_rounds 6 ?_
              rw [rounds_succ]
              go_wp2_with fail
              rw [rounds_succ]
              go_wp2_with fail
              rw [rounds_succ]
              go_wp2_with fail
              rw [rounds_succ]
              go_wp2_with fail
              go_ret
              exact ⟨rfl, (below_alloc _).trans ((below_alloc _).mono (below_alloc _).size)⟩
          · rw [decide_eq_false g2]
            simp only [Bool.and_false, Bool.false_and]
            go_enter Tryd.func25, Tryd.ntmps25
            go_wp2_with fail
            refine wp_loop_rounds 6 ?_
            rw [rounds_succ]
            go_wp2_with fail
            rw [rounds_succ]
            go_wp2_with fail
            rw [rounds_succ]
            go_wp2_with fail
            go_ret
            exact ⟨rfl, (below_alloc _).trans ((below_alloc _).mono (below_alloc _).size)⟩
        · rw [decide_eq_false g1]
          simp only [Bool.and_false, Bool.false_and]
          go_enter Tryd.func25, Tryd.ntmps25
          go_wp2_with fail
          refine wp_loop_rounds 6 ?_
          rw [rounds_succ]
          go_wp2_with fail
          rw [rounds_succ]
          go_wp2_with fail
          go_ret
          exact ⟨rfl, (below_alloc _).trans ((below_alloc _).mono (below_alloc _).size)⟩
      · rw [decide_eq_false g0]
        simp only [Bool.and_false, Bool.false_and]
        go_enter Tryd.func25, Tryd.ntmps25
        go_wp2_with fail
        refine wp_loop_rounds 6 ?_
        rw [rounds_succ]
        go_wp2_with fail
        go_ret
        exact ⟨rfl, (below_alloc _).trans ((below_alloc _).mono (below_alloc _).size)⟩
end Go.Proofs.YtbficmdjblimfaaDoor
