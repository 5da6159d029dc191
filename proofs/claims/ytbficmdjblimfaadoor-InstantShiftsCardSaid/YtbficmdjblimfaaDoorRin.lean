/-
  The reference's InRange and Seconds by their contracts.
-/
import Derived.Test.YtbficmdjblimfaaDoorRng
import Derived.BigQuiet
namespace Go.Proofs.YtbficmdjblimfaaDoor
open Go.RowKit
def off (m : Ins.M) : Int := if m.z = 45 then -((3600 * m.zh + 60 * m.zm : Nat) : Int) else ((3600 * m.zh + 60 * m.zm : Nat) : Int)
def late (m : Ins.M) : Bool := decide (23 < m.zh) || decide (59 < m.zm)
/-- The fields as the reference passes them. -/
def tV (m : Ins.M) : Value := .agg #[.bool m.date, .bool m.time, .bool (m.z != 0), .int .i64 (m.y : Int), .int .i64 (m.mo : Int), .int .i64 (m.d : Int), .int .i64 (m.h : Int), .int .i64 (m.mi : Int), .int .i64 (m.s : Int), .int .i64 (m.ns : Int), .int .i64 (off m), .bool (late m)]
theorem inrange_tail (lt b1 b2 b3 c1 c2 : Bool) (h : lt = (!c1 || !c2)) : (!lt && b1 && b2 && b3) = (b1 && b2 && b3 && c1 && c2) := by
  subst h; cases b1 <;> cases b2 <;> cases b3 <;> cases c1 <;> cases c2 <;> rfl
set_option maxRecDepth 100000 in
set_option maxHeartbeats 8000000 in
theorem inrange_any (m : Ins.M) (w : World) (h1 : m.y ≤ 9999) (h2 : m.mo ≤ 99) (h3 : m.d ≤ 99) :
    Calls Tryd.prog 27 #[tV m] w fun e w' => e = .returned (.bool m.ranges) ∧ Below w.heap.size w w' := by
  have hr : m.ranges = ((!m.date || decide (Ins.dateOk m.y m.mo m.d)) && (!(late m) && decide (m.h ≤ 23) && decide (m.mi ≤ 59) && decide (m.s ≤ 59))) := by
    rw [inrange_tail (late m) _ _ _ (decide (m.zh ≤ 23)) (decide (m.zm ≤ 59)) (by
      unfold late
      rw [← decide_not, ← decide_not, Bool.eq_iff_iff]
      simp only [Bool.or_eq_true, decide_eq_true_eq]
      omega)]
    unfold Ins.M.ranges
    simp only [Bool.and_assoc]
  rw [hr]
  unfold tV
  generalize off m = O
  generalize late m = LT
  generalize (m.z != 0) = ZB
  have HM := Lib.hid (fun (g1 : 1 ≤ m.mo) (g2 : m.mo ≤ 12) w1 => month_any m.y m.mo (by omega) g1 g2 w1)
  obtain ⟨date, time, y, mo, d, hh, mi, s, ns, z, zh, zm⟩ := m
  simp only at h1 h2 h3 HM ⊢
  clear hr
  cases date with
  | false =>
    simp only [Bool.not_false, Bool.true_or, Bool.true_and]
    clear HM
    cases LT with
    | false =>
      go_enter Tryd.func27, Tryd.ntmps27
      go_wp2_with fail
      go_quiet (fail)
      all_goals go_wp2_with fail
      all_goals go_ret
      all_goals refine ⟨congrArg (fun x => Go.Ending.returned (Value.bool x)) ?_, drewN_below (below_alloc _) _⟩
      all_goals rw [Bool.eq_iff_iff]
      all_goals simp only [Bool.not_true, Bool.not_false, Bool.false_and, Bool.true_and, Bool.and_eq_true, decide_eq_true_eq, Bool.false_eq_true, true_iff, false_iff, iff_true, iff_false]
      all_goals omega
    | true =>
      go_enter Tryd.func27, Tryd.ntmps27
      go_wp2_with fail
      go_quiet (fail)
      all_goals go_wp2_with fail
      all_goals go_ret
      all_goals refine ⟨congrArg (fun x => Go.Ending.returned (Value.bool x)) ?_, drewN_below (below_alloc _) _⟩
      all_goals rw [Bool.eq_iff_iff]
      all_goals simp only [Bool.not_true, Bool.not_false, Bool.false_and, Bool.true_and, Bool.and_eq_true, decide_eq_true_eq, Bool.false_eq_true, true_iff, false_iff, iff_true, iff_false]
      all_goals omega
  | true =>
    simp only [Bool.not_true, Bool.false_or]
    by_cases g1 : 1 ≤ mo
    · by_cases g2 : mo ≤ 12
      · have HM := Lib.hid (HM.out g1 g2)
        have hml := Ins.mlen_bd y mo
        by_cases g3 : 1 ≤ d
        · by_cases g4 : d ≤ Ins.mlen y mo
          · rw [decide_eq_true (show Ins.dateOk y mo d from ⟨h1, g1, g2, g3, g4⟩), Bool.true_and]
            generalize Ins.mlen y mo = L at *
            have k1 : ¬ ((L : Int) < (d : Int)) := by omega
            have k2 : decide ((mo : Int) < 1) = false := decide_eq_false (by omega)
            have k3 : decide (12 < (mo : Int)) = false := decide_eq_false (by omega)
            have k4 : decide ((d : Int) < 1) = false := decide_eq_false (by omega)
            have k5 : decide ((L : Int) < (d : Int)) = false := decide_eq_false (by omega)
            cases LT with
            | false =>
              go_enter Tryd.func27, Tryd.ntmps27
              go_wp2_with fail
              go_quiet ((go_at_call 36; exact Calls.quiet_of_same ((HM.out _).mono fun _ _ h => ⟨h.1, h.2.symm⟩)))
              all_goals go_wp2_with fail
              all_goals go_ret
              all_goals refine ⟨congrArg (fun x => Go.Ending.returned (Value.bool x)) ?_, drewN_below (below_alloc _) _⟩
              all_goals rw [Bool.eq_iff_iff]
              all_goals simp only [Bool.not_true, Bool.not_false, Bool.false_and, Bool.true_and, Bool.and_eq_true, decide_eq_true_eq, Bool.false_eq_true, true_iff, false_iff, iff_true, iff_false]
              all_goals omega
            | true =>
              go_enter Tryd.func27, Tryd.ntmps27
              go_wp2_with fail
              go_quiet ((go_at_call 36; exact Calls.quiet_of_same ((HM.out _).mono fun _ _ h => ⟨h.1, h.2.symm⟩)))
              all_goals go_wp2_with fail
              all_goals go_ret
              all_goals refine ⟨congrArg (fun x => Go.Ending.returned (Value.bool x)) ?_, drewN_below (below_alloc _) _⟩
              all_goals rw [Bool.eq_iff_iff]
              all_goals simp only [Bool.not_true, Bool.not_false, Bool.false_and, Bool.true_and, Bool.and_eq_true, decide_eq_true_eq, Bool.false_eq_true, true_iff, false_iff, iff_true, iff_false]
              all_goals omega
          · have hd : ¬ Ins.dateOk y mo d := fun h => g4 h.2.2.2.2
            rw [decide_eq_false hd]
            simp only [Bool.not_true, Bool.false_or, Bool.false_and]
            generalize Ins.mlen y mo = L at *
            have k2 : decide ((mo : Int) < 1) = false := decide_eq_false (by omega)
            have k3 : decide (12 < (mo : Int)) = false := decide_eq_false (by omega)
            have k4 : decide ((d : Int) < 1) = false := decide_eq_false (by omega)
            have k5 : decide ((L : Int) < (d : Int)) = true := decide_eq_true (by omega)
            go_enter Tryd.func27, Tryd.ntmps27
            go_wp2_with fail
            go_quiet ((go_at_call 36; exact Calls.quiet_of_same ((HM.out _).mono fun _ _ h => ⟨h.1, h.2.symm⟩)))
            go_wp2_with fail
            go_ret
            exact ⟨rfl, drewN_below (below_alloc _) _⟩
        · have hd : ¬ Ins.dateOk y mo d := fun h => g3 h.2.2.2.1
          rw [decide_eq_false hd]
          simp only [Bool.not_true, Bool.false_or, Bool.false_and]
          have k2 : decide ((mo : Int) < 1) = false := decide_eq_false (by omega)
          have k3 : decide (12 < (mo : Int)) = false := decide_eq_false (by omega)
          have k4 : decide ((d : Int) < 1) = true := decide_eq_true (by omega)
          go_enter Tryd.func27, Tryd.ntmps27
          go_wp2_with fail
          go_quiet (fail)
          go_wp2_with fail
          go_ret
          exact ⟨rfl, drewN_below (below_alloc _) _⟩
      · have hd : ¬ Ins.dateOk y mo d := fun h => g2 h.2.2.1
        rw [decide_eq_false hd]
        simp only [Bool.not_true, Bool.false_or, Bool.false_and]
        have k2 : decide ((mo : Int) < 1) = false := decide_eq_false (by omega)
        have k3 : decide (12 < (mo : Int)) = true := decide_eq_true (by omega)
        go_enter Tryd.func27, Tryd.ntmps27
        go_wp2_with fail
        go_quiet (fail)
        go_wp2_with fail
        go_ret
        exact ⟨rfl, drewN_below (below_alloc _) _⟩
    · have hd : ¬ Ins.dateOk y mo d := fun h => g1 h.2.1
      rw [decide_eq_false hd]
      simp only [Bool.not_true, Bool.false_or, Bool.false_and]
      have k2 : decide ((mo : Int) < 1) = true := decide_eq_true (by omega)
      go_enter Tryd.func27, Tryd.ntmps27
      go_wp2_with fail
      go_quiet (fail)
      go_wp2_with fail
      go_ret
      exact ⟨rfl, drewN_below (below_alloc _) _⟩
set_option maxRecDepth 100000 in
set_option maxHeartbeats 8000000 in
theorem rseconds_any (m : Ins.M) (w : World) (h4 : m.h ≤ 99) (h5 : m.mi ≤ 99) (h6 : m.s ≤ 99) (h7 : m.zh ≤ 99) (h8 : m.zm ≤ 99) (hz : m.z = 0 ∧ m.zh = 0 ∧ m.zm = 0 ∨ (m.z = 90 ∧ m.zh = 0 ∧ m.zm = 0 ∨ m.z = 43 ∨ m.z = 45)) (hd : Ins.dateOk m.y m.mo m.d) :
    Calls Tryd.prog 20 #[tV m] w fun e w' => e = .returned (.int .i64 (m.secs - Ins.epoch)) ∧ Below w.heap.size w w' := by
  have hlt := Ins.days_lt _ _ _ hd
  have hml := (Ins.mlen_bd m.y m.mo).2
  have hd1 := hd.1
  have hd2 := hd.2.1
  have hd3 := hd.2.2.1
  have hd4 := hd.2.2.2.1
  have hd5 := hd.2.2.2.2
  have HD := Lib.hid (fun w1 => rdays_any m.y m.mo m.d (by omega) hd2 hd3 (by omega) w1)
  have hs : m.secs - Ins.epoch = 86400 * (((Ins.first m.y : Nat) : Int) + ((Ins.cum m.y (m.mo - 1) : Nat) : Int) - 719528 + (m.d : Int) - 1) + 3600 * m.h + 60 * m.mi + m.s - off m := by
    have hO : off m = -(if m.z = 43 then -((m.zh * 3600 + m.zm * 60 : Nat) : Int) else ((m.zh * 3600 + m.zm * 60 : Nat) : Int)) := by
      unfold off
      rcases hz with ⟨h1, h2, h3⟩ | ⟨h1, h2, h3⟩ | h1 | h1
      · rw [h1, h2, h3]; rfl
      · rw [h1, h2, h3]; rfl
      · rw [h1, if_neg (by decide), if_pos rfl]; omega
      · rw [h1, if_pos rfl, if_neg (by decide)]; omega
    rw [hO]
    unfold Ins.M.secs Ins.epoch Ins.days
    omega
  rw [hs]
  have hlt2 : Ins.first m.y + Ins.cum m.y (m.mo - 1) + (m.d - 1) < 3652425 := hlt
  have hO1 : -400000 ≤ off m := by unfold off; split <;> omega
  have hO2 : off m ≤ 400000 := by unfold off; split <;> omega
  unfold tV
  generalize off m = O at *
  generalize late m = LT
  generalize (m.z != 0) = ZB
  clear hs hz hlt hd
  obtain ⟨date, time, y, mo, d, hh, mi, s, ns, z, zh, zm⟩ := m
  simp only at *
  generalize Ins.first y = F at *
  generalize Ins.cum y (mo - 1) = C at *
  obtain ⟨D, hD⟩ : ∃ D : Int, D = (F : Int) + (C : Int) - 719528 + (d : Int) - 1 := ⟨_, rfl⟩
  rw [← hD] at HD ⊢
  have hD1 : -719529 ≤ D := by omega
  have hD2 : D ≤ 3652425 := by omega
  clear hD hlt2 hml hd1 hd2 hd3 hd4 hd5
  go_enter Tryd.func20, Tryd.ntmps20
  go_wp2_with fail
  go_quiet ((go_at_call 34; exact Calls.quiet_of_same ((HD.out _).mono fun _ _ h => ⟨h.1, h.2.symm⟩)))
  go_wp2_with fail
  go_ret
  exact ⟨rfl, drewN_below (below_alloc _) _⟩
end Go.Proofs.YtbficmdjblimfaaDoor
