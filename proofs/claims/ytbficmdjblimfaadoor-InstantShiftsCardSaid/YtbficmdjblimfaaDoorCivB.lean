/-
  civil.Days and the reference's Days by their contracts.
-/
import Derived.Test.YtbficmdjblimfaaDoorCivA
namespace Go.Proofs.YtbficmdjblimfaaDoor
open Go.RowKit
/-- What civil.Days answers. -/
def dayR (y m d : Nat) : Int × Int := if Ins.dateOk y m d then ((Ins.days y m d : Int) - 719528, 0) else (0, 13)
theorem cum_le (y k : Nat) : Ins.cum y k ≤ 31 * k := by
  induction k with
  | zero => exact Nat.le_refl _
  | succ k ih => have := (Ins.mlen_bd y (k + 1)).2; show Ins.cum y k + Ins.mlen y (k + 1) ≤ _; omega
set_option maxHeartbeats 2000000 in
theorem days_any (y m d : Nat) (hy : y ≤ 1000000) (hm : m ≤ 1000) (hd : d ≤ 1000) (w : World) :
    Calls Tryd.prog 39 #[.int .i64 (y : Int), .int .i64 (m : Int), .int .i64 (d : Int)] w fun e w' => e = .returned (.tuple #[.int .i64 (dayR y m d).1, .int .i64 (dayR y m d).2]) ∧ Below w.heap.size w w' := by
  have HF := Lib.hid (fun w1 => first_any y hy w1)
  have HM := Lib.hid (fun k (h1 : 1 ≤ k) (h2 : k ≤ 12) w1 => length_any y k hy h1 h2 w1)
  have hfl := Ins.first_hi y
  by_cases ho : y ≤ 9999 ∧ 1 ≤ m ∧ m ≤ 12 ∧ 1 ≤ d
  · obtain ⟨o1, o2, o3, o4⟩ := ho
    have hml := Ins.mlen_bd y m
    have HMm := Lib.hid (HM.out m o2 o3)
    by_cases o5 : d ≤ Ins.mlen y m
    · have hres : dayR y m d = ((Ins.days y m d : Int) - 719528, 0) := if_pos ⟨o1, o2, o3, o4, o5⟩
      rw [hres]
      have HD : Hid (Ins.days y m d = Ins.first y + Ins.cum y (m - 1) + (d - 1)) := Lib.hid rfl
      clear hres
      generalize Ins.days y m d = D at *
      obtain ⟨L, hL⟩ : ∃ L, L = Ins.mlen y m := ⟨_, rfl⟩
      rw [← hL] at HMm o5
      obtain ⟨F, hF⟩ : ∃ F, F = Ins.first y := ⟨_, rfl⟩
      rw [← hF] at HF HD hfl
      clear hL hF hml
      go_enter Tryd.func39, Tryd.ntmps39
      go_wp2_with (first | (go_at_call 44; refine (HMm.out _).mono ?_; rintro e w3 ⟨rfl, hb3⟩) | (go_at_call 43; refine (HF.out _).mono ?_; rintro e w4 ⟨rfl, rfl⟩))
      have HC := Lib.hid (fun k => cum_le y k)
      go_loopg [8, 9] m (fun g nv mv wr => ∃ j : Nat, j + g = m ∧ j + 1 ≤ m ∧ nv = .int .i64 ((F : Int) + (Ins.cum y j : Nat) + d - 1 - 719528) ∧ mv = .int .i64 ((j : Int) + 1) ∧ Below w.heap.size w wr)
      case atStart => 
        exact ⟨0, by omega, by omega, by simp [Ins.cum], by simp, hb3⟩
      case round =>
        obtain ⟨j, hg, hjm, rfl, rfl, hbr⟩ := hrel
        by_cases hj : j + 1 < m
        · have HMj := Lib.hid (HM.out (j + 1) (by omega) (by omega))
          have hc := HC.out j
          have hl := Ins.mlen_bd y (j + 1)
          have HS : Hid (Ins.cum y (j + 1) = Ins.cum y j + Ins.mlen y (j + 1)) := Lib.hid rfl
          rw [show (((j + 1 : Nat) : Int)) = (j : Int) + 1 by omega] at HMj
          generalize Ins.mlen y (j + 1) = K at *
          generalize Ins.cum y j = C at *
          go_wp2_with (go_at_call 44; refine (HMj.out _).mono ?_; rintro e w5 ⟨rfl, hb5⟩)
          go_roundg (m - (j + 1))
          case measure => omega
          case rel => exact ⟨j + 1, by omega, by omega, by rw [HS.out]; go_num, by go_num, hbr.trans (hb5.mono hbr.size)⟩
        · obtain rfl : m = j + 1 := by omega
          have HD2 : Hid ((D : Int) = F + (Ins.cum y j : Nat) + d - 1) := Lib.hid (by have := HD.out; rw [Nat.add_sub_cancel] at this; omega)
          clear HD HM HF HMm HC
          go_wp2_with fail
          go_ret2
          rw [HD2.out]
          exact ⟨rfl, hbr⟩
    · have hres : dayR y m d = (0, 13) := if_neg (fun h => o5 h.2.2.2.2)
      rw [hres]
      generalize Ins.mlen y m = L at *
      go_enter Tryd.func39, Tryd.ntmps39
      go_wp2_with (go_at_call 44; refine (HMm.out _).mono ?_; rintro e w3 ⟨rfl, hb3⟩)
      go_ret2
      exact ⟨rfl, by assumption⟩
  · have hres : dayR y m d = (0, 13) := if_neg (fun h => ho ⟨h.1, h.2.1, h.2.2.1, h.2.2.2.1⟩)
    rw [hres]
    clear HF HM
    by_cases c1 : y ≤ 9999
    · by_cases c2 : 1 ≤ m
      · by_cases c3 : m ≤ 12
        · have c4 : d = 0 := by
            apply Classical.byContradiction
            intro h
            exact ho ⟨c1, c2, c3, by omega⟩
          subst c4
          clear ho
          go_enter Tryd.func39, Tryd.ntmps39
          go_wp2_with fail
          go_ret2
          exact ⟨rfl, Below.refl _ _⟩
        · clear ho
          go_enter Tryd.func39, Tryd.ntmps39
          go_wp2_with fail
          go_ret2
          exact ⟨rfl, Below.refl _ _⟩
      · clear ho
        go_enter Tryd.func39, Tryd.ntmps39
        go_wp2_with fail
        go_ret2
        exact ⟨rfl, Below.refl _ _⟩
    · clear ho
      go_enter Tryd.func39, Tryd.ntmps39
      go_wp2_with fail
      go_ret2
      exact ⟨rfl, Below.refl _ _⟩
end Go.Proofs.YtbficmdjblimfaaDoor
