/-
  civil.Date and the reference's Days by their contracts.
-/
import Derived.Test.YtbficmdjblimfaaDoorCivB
namespace Go.Proofs.YtbficmdjblimfaaDoor
open Go.RowKit
set_option maxHeartbeats 2000000 in
theorem rdays_any (y m d : Nat) (hy : y ≤ 1000000) (h1 : 1 ≤ m) (h2 : m ≤ 12) (hd : d ≤ 1000) (w : World) :
    Calls Tryd.prog 34 #[.int .i64 (y : Int), .int .i64 (m : Int), .int .i64 (d : Int)] w fun e w' => e = .returned (.int .i64 ((Ins.first y : Nat) + (Ins.cum y (m - 1) : Nat) - 719528 + (d : Int) - 1)) ∧ w = w' := by
  have HM := Lib.hid (fun k (h1 : 1 ≤ k) (h2 : k ≤ 12) w1 => month_any y k hy h1 h2 w1)
  have hfl := Ins.first_hi y
  have HC := Lib.hid (fun k => cum_le y k)
  have hF : 365 * (y : Int) + ((y : Int) + 3) / 4 - ((y : Int) + 99) / 100 + ((y : Int) + 399) / 400 = (Ins.first y : Nat) := by
    unfold Ins.first
    omega
  have HF := Lib.hid hF
  clear hF
  obtain ⟨p, rfl⟩ : ∃ p, m = p + 1 := ⟨m - 1, by omega⟩
  rw [Nat.add_sub_cancel]
  obtain ⟨m, hm⟩ : ∃ m, m = p + 1 := ⟨_, rfl⟩
  rw [← hm] at h1 h2 ⊢
  have hm1 : m ≤ p + 1 := by omega
  have hm2 : p + 1 ≤ m := by omega
  clear hm
  go_enter Tryd.func34, Tryd.ntmps34
  go_wp2_with fail
  rw [HF.out]
  generalize (365 * (y : Int) + ((y : Int) + 3) / 4 - ((y : Int) + 99) / 100) = i18
  generalize (365 * (y : Int) + ((y : Int) + 3) / 4) = i14
  clear HF
  obtain ⟨F, hF⟩ : ∃ F, F = Ins.first y := ⟨_, rfl⟩
  rw [← hF] at hfl ⊢
  have HFF := Lib.hid hF
  clear hF
  go_loopg [7, 8] m (fun g nv mv wr => ∃ j : Nat, j + g = m ∧ j + 1 ≤ m ∧ nv = .int .i64 ((F : Int) + (Ins.cum y j : Nat) - 719528) ∧ mv = .int .i64 ((j : Int) + 1) ∧ w = wr)
  case atStart =>
    exact ⟨0, by omega, by omega, by simp [Ins.cum], by simp, rfl⟩
  case round =>
    obtain ⟨j, hg, hjm, rfl, rfl, rfl⟩ := hrel
    by_cases hj : j + 1 < m
    · have HMj := Lib.hid (HM.out (j + 1) (by omega) (by omega))
      have hc := HC.out j
      have hl := Ins.mlen_bd y (j + 1)
      have HS : Hid (Ins.cum y (j + 1) = Ins.cum y j + Ins.mlen y (j + 1)) := Lib.hid rfl
      rw [show (((j + 1 : Nat) : Int)) = (j : Int) + 1 by omega] at HMj
      generalize Ins.mlen y (j + 1) = K at *
      generalize Ins.cum y j = C at *
      go_wp2_with (go_at_call 36; with_reducible refine (HMj.out _).mono ?_; rintro e w5 ⟨rfl, rfl⟩)
      go_roundg (m - (j + 1))
      case measure => omega
      case rel => exact ⟨j + 1, by omega, by omega, by rw [HS.out]; go_num, by go_num, rfl⟩
    · obtain rfl : j = p := by omega
      have hc := HC.out j
      clear HM HC
      go_wp2_with fail
      go_ret
      rw [HFF.out]
      exact ⟨rfl, rfl⟩
set_option maxRecDepth 100000 in
set_option maxHeartbeats 2000000 in
theorem date_any (n : Nat) (hn : n < 3652425) (w : World) :
    Calls Tryd.prog 33 #[.int .i64 ((n : Int) - 719528)] w fun e w' => e = .returned (.tuple #[.int .i64 ((Ins.dateOf n).1 : Int), .int .i64 ((Ins.dateOf n).2.1 : Int), .int .i64 ((Ins.dateOf n).2.2 : Int), .int .i64 0]) ∧ Below w.heap.size w w' := by
  have HF := Lib.hid (fun y (hy : y ≤ 1000000) w1 => first_any y hy w1)
  have HL := Lib.hid (fun y k (hy : y ≤ 1000000) (h1 : 1 ≤ k) (h2 : k ≤ 12) w1 => length_any y k hy h1 h2 w1)
  obtain ⟨Y, hY⟩ : ∃ Y, Y = Ins.yearOf n := ⟨_, rfl⟩
  have hok := Ins.yearOf_ok n hn
  rw [← hY] at hok
  have hdo : Ins.dateOf n = (Y, (Ins.monthF 12 Y 1 (n - Ins.first Y)).1, (Ins.monthF 12 Y 1 (n - Ins.first Y)).2 + 1) := by rw [hY]; rfl
  rw [hdo]
  have hmo := Ins.monthF_ok 12 Y 1 (n - Ins.first Y) (Nat.le_refl _) (by
    show n - Ins.first Y + 0 < Ins.cum Y (0 + 12)
    have := Ins.cum12 Y
    rw [Nat.zero_add]
    omega)
  have hc12 : n < Ins.first Y + Ins.cum Y 12 := by rw [Ins.cum12]; exact hok.2.1
  have HYY : Hid (Y = Ins.yearF 10000 (n / 366) n) := Lib.hid hY
  have hn0 : n < Ins.first (n / 366 + 10000) := by
    refine Nat.lt_of_lt_of_le hn ?_
    rw [← Ins.first_10000]
    exact Ins.first_mono (by omega)
  have HN0 := Lib.hid hn0
  have HC12 := Lib.hid hc12
  have HOK := Lib.hid hok
  clear hY hdo hn0 hmo hc12 hok
  obtain ⟨M, hM⟩ : ∃ M, M = Ins.monthF 12 Y 1 (n - Ins.first Y) := ⟨_, rfl⟩
  rw [← hM]
  have HM := Lib.hid hM
  clear hM
  have hnm : (n : Int) - 719528 + 719528 = n := by omega
  go_enter Tryd.func33, Tryd.ntmps33
  go_wp2_with fail
  go_loopg [7] 10000 (fun g yv wr => ∃ y : Nat, yv = .int .i64 (y : Int) ∧ y + g ≤ 20000 ∧ Hid (Y = Ins.yearF g y n) ∧ Hid (n < Ins.first (y + g)) ∧ w = wr)
  case atStart => exact ⟨n / 366, rfl, by omega, HYY, HN0, rfl⟩
  case round =>
    obtain ⟨y, rfl, hyg, HYg, HNg, rfl⟩ := hrel
    have HF1 := Lib.hid (HF.out (y + 1) (by omega))
    rw [show ((y + 1 : Nat) : Int) = (y : Int) + 1 by omega] at HF1
    by_cases hle : Ins.first (y + 1) ≤ n
    · obtain ⟨g', hg'⟩ : ∃ g', gk = g' + 1 := by
        refine ⟨gk - 1, ?_⟩
        apply Classical.byContradiction
        intro h
        obtain rfl : gk = 0 := by omega
        have h1 := HNg.out
        have h2 := Ins.first_mono (a := y) (b := y + 1) (by omega)
        rw [Nat.add_zero] at h1
        omega
      subst hg'
      have HY2 : Hid (Y = Ins.yearF g' (y + 1) n) := Lib.hid (by have := HYg.out; unfold Ins.yearF at this; rw [if_pos hle] at this; exact this)
      have HN2 : Hid (n < Ins.first (y + 1 + g')) := Lib.hid (by have := HNg.out; rw [show y + (g' + 1) = y + 1 + g' by omega] at this; exact this)
      generalize Ins.first (y + 1) = F at *
      clear HYg HNg HYY HN0 HOK HC12 HM HF HL
      go_wp2_with (go_at_call 43; with_reducible refine (HF1.out _).mono ?_; rintro e w5 ⟨rfl, rfl⟩)
      go_roundg g'
      case measure => omega
      case rel => exact ⟨y + 1, by go_num, by omega, HY2, HN2, rfl⟩
    · have hYy : Y = y := by
        have := HYg.out
        cases gk with
        | zero => exact this
        | succ g => unfold Ins.yearF at this; rw [if_neg hle] at this; exact this
      subst hYy
      have hb := Ins.first_hi Y
      have HFY := Lib.hid (HF.out Y (by omega))
      have HC0 : Hid ((Int.ofNat n) - (Ins.first Y : Nat) = ((n - Ins.first Y : Nat) : Int)) := Lib.hid (by have := HOK.out.1; simp only [Int.ofNat_eq_natCast]; omega)
      have ho1 := HOK.out.1
      obtain ⟨N, hN⟩ : ∃ N, N = n - Ins.first Y := ⟨_, rfl⟩
      have hc := HC12.out
      have hN2 : Hid ((n : Int) - (Ins.first Y : Nat) = (N : Int)) := Lib.hid (by omega)
      have hNc : Hid (N + Ins.cum Y (1 - 1) < Ins.cum Y (1 - 1 + 12)) := Lib.hid (by
        show N + 0 < Ins.cum Y 12
        omega)
      rw [← hN] at HM
      have hNl : N < 3652425 := by omega
      have hFn : Hid (¬ Ins.first (Y + 1) ≤ n) := Lib.hid hle
      obtain ⟨F1, hF1⟩ : ∃ F1, F1 = Ins.first (Y + 1) := ⟨_, rfl⟩
      rw [← hF1] at HF1 hle
      clear HYg HNg HYY HN0 hN hc HC12 HOK hF1
      obtain ⟨F, hF⟩ : ∃ F, F = Ins.first Y := ⟨_, rfl⟩
      rw [← hF] at HFY hN2 ho1 hb
      clear hF
      go_wp2_with (first | (go_at_call 43; with_reducible refine (HF1.out _).mono ?_; rintro e w5 ⟨rfl, rfl⟩) | (go_at_call 43; with_reducible refine (HFY.out _).mono ?_; rintro e w6 ⟨rfl, rfl⟩))
      rw [hN2.out]
      go_loopg [6, 8] 12 (fun g nv mv wr => ∃ k m : Nat, nv = .int .i64 (k : Int) ∧ mv = .int .i64 (m : Int) ∧ m + g = 13 ∧ 1 ≤ m ∧ k < 3652425 ∧ Hid (M = Ins.monthF g Y m k) ∧ Hid (k + Ins.cum Y (m - 1) < Ins.cum Y (m - 1 + g)) ∧ Below w.heap.size w wr)
      case atStart => exact ⟨N, 1, rfl, rfl, rfl, Nat.le_refl _, hNl, HM, hNc, Below.refl _ _⟩
      case round =>
        obtain ⟨k, m, rfl, rfl, hmg, hm1, hk, HMg, HCg, hbr⟩ := hrel
        obtain ⟨g', hg'⟩ : ∃ g', gk = g' + 1 := by
          refine ⟨gk - 1, ?_⟩
          apply Classical.byContradiction
          intro h
          obtain rfl : gk = 0 := by omega
          have h1 := HCg.out
          rw [Nat.add_zero] at h1
          omega
        subst hg'
        have HLm := Lib.hid (fun w1 => HL.out Y m (by omega) hm1 (by omega) w1)
        have hl := Ins.mlen_bd Y m
        by_cases hle : Ins.mlen Y m ≤ k
        · have HM2 : Hid (M = Ins.monthF g' Y (m + 1) (k - Ins.mlen Y m)) := Lib.hid (by have := HMg.out; unfold Ins.monthF at this; rw [if_pos hle] at this; exact this)
          have HC2 : Hid (k - Ins.mlen Y m + Ins.cum Y (m + 1 - 1) < Ins.cum Y (m + 1 - 1 + g')) := Lib.hid (by
            have h1 := HCg.out
            have e1 : Ins.cum Y (m - 1 + 1) = Ins.cum Y (m - 1) + Ins.mlen Y (m - 1 + 1) := rfl
            rw [show m - 1 + 1 = m by omega] at e1
            rw [show m - 1 + (g' + 1) = m + g' by omega] at h1
            rw [Nat.add_sub_cancel]
            omega)
          obtain ⟨L, hL⟩ : ∃ L, L = Ins.mlen Y m := ⟨_, rfl⟩
          rw [← hL] at HLm hle HM2 HC2 hl
          obtain ⟨k2, hk2⟩ : ∃ k2, k2 = k - L := ⟨_, rfl⟩
          rw [← hk2] at HM2 HC2
          have hk3 : Hid ((k : Int) - (L : Int) = (k2 : Int)) := Lib.hid (by omega)
          have hk4 : k2 < 3652425 := by omega
          clear hL HMg HCg HM hk2 HF HL
          go_wp2_with (go_at_call 44; with_reducible refine (HLm.out _).mono ?_; rintro e w5 ⟨rfl, hb5⟩; replace hbr := hbr.trans (hb5.mono hbr.size); clear hb5)
          rw [hk3.out]
          go_roundg g'
          case measure => omega
          case rel => exact ⟨k2, m + 1, rfl, by go_num, by omega, by omega, hk4, HM2, HC2, hbr⟩
        · have hMe : M = (m, k) := by
            have := HMg.out
            unfold Ins.monthF at this
            rw [if_neg hle] at this
            exact this
          subst hMe
          obtain ⟨L, hL⟩ : ∃ L, L = Ins.mlen Y m := ⟨_, rfl⟩
          rw [← hL] at HLm hle hl
          clear hL HMg HCg HM HF HL hNc
          go_wp2_with (go_at_call 44; with_reducible refine (HLm.out _).mono ?_; rintro e w5 ⟨rfl, hb5⟩; replace hbr := hbr.trans (hb5.mono hbr.size); clear hb5)
          refine bodyPost_ret (v := .tuple #[.int .i64 (Y : Int), .int .i64 (m : Int), .int .i64 ((k : Int) + 1), .int .i64 0]) (by simp [results, Tryd.results33, go_sem]) rfl ?_
          exact ⟨rfl, hbr⟩
end Go.Proofs.YtbficmdjblimfaaDoor
