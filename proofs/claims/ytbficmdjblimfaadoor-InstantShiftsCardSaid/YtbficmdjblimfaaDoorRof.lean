/-
  The reference's Of by its contract.
-/
import Derived.Test.YtbficmdjblimfaaDoorRin
namespace Go.Proofs.YtbficmdjblimfaaDoor
open Go.RowKit
set_option maxRecDepth 100000 in
set_option maxHeartbeats 8000000 in
theorem rof_any (k j : Nat) (hk : k < Ins.top) (hj : j ≤ 999999999) (w : World) :
    Calls Tryd.prog 22 #[.int .i64 ((k : Int) - 62167219200), .int .i64 (j : Int)] w fun e w' => e = .returned (tV (Ins.ofS k j)) ∧ Below w.heap.size w w' := by
  have HF := Lib.hid (fun y (hy : y ≤ 1000000) w1 => rdays_any y 1 1 hy (by decide) (by decide) (by decide) w1)
  have HL := Lib.hid (fun y k (hy : y ≤ 1000000) (h1 : 1 ≤ k) (h2 : k ≤ 12) w1 => month_any y k hy h1 h2 w1)
  have hq : k / 86400 < 3652425 := by unfold Ins.top at hk; omega
  have hT : tV (Ins.ofS k j) = .agg #[.bool true, .bool true, .bool true, .int .i64 ((Ins.dateOf (k / 86400)).1 : Int), .int .i64 ((Ins.dateOf (k / 86400)).2.1 : Int), .int .i64 ((Ins.dateOf (k / 86400)).2.2 : Int), .int .i64 ((k % 86400 / 3600 : Nat) : Int), .int .i64 ((k % 86400 / 60 % 60 : Nat) : Int), .int .i64 ((k % 86400 % 60 : Nat) : Int), .int .i64 (j : Int), .int .i64 0, .bool false] := by
    rw [show k % 86400 % 60 = k % 60 by omega]; rfl
  rw [hT]
  have e1 : (k : Int) - 62167219200 - -62167219200 = k := by omega
  have e2 : (k : Int) / 86400 = (k / 86400 : Nat) := by omega
  have e3 : (k : Int) % 86400 = (k % 86400 : Nat) := by omega
  have hr : k % 86400 < 86400 := Nat.mod_lt _ (by decide)
  have hkk : k ≤ 315569520000 := by unfold Ins.top at hk; omega
  clear hT hk
  generalize k / 86400 = n at *
  generalize k % 86400 = r at *
  obtain ⟨Y, hY⟩ : ∃ Y, Y = Ins.yearOf n := ⟨_, rfl⟩
  have hok := Ins.yearOf_ok n hq
  rw [← hY] at hok
  have hdo : Ins.dateOf n = (Y, (Ins.monthF 12 Y 1 (n - Ins.first Y)).1, (Ins.monthF 12 Y 1 (n - Ins.first Y)).2 + 1) := by rw [hY]; rfl
  rw [hdo]
  have hc12 : n < Ins.first Y + Ins.cum Y 12 := by rw [Ins.cum12]; exact hok.2.1
  have HYY : Hid (Y = Ins.yearF 10000 (n / 366) n) := Lib.hid hY
  have HN0 : Hid (n < Ins.first (n / 366 + 10000)) := Lib.hid (by
    refine Nat.lt_of_lt_of_le hq ?_
    rw [← Ins.first_10000]
    exact Ins.first_mono (by omega))
  have HC12 := Lib.hid hc12
  have HOK := Lib.hid hok
  clear hY hdo hc12 hok
  obtain ⟨M, hM⟩ : ∃ M, M = Ins.monthF 12 Y 1 (n - Ins.first Y) := ⟨_, rfl⟩
  rw [← hM]
  have HM := Lib.hid hM
  clear hM
  go_enter Tryd.func22, Tryd.ntmps22
  go_wp2_with fail
  go_loopg [] 10000 (fun g wr => ∃ y : Nat, y + g ≤ 20000 ∧ Hid (Y = Ins.yearF g y n) ∧ Hid (n < Ins.first (y + g)) ∧ (w.alloc (.cells #[.bool false, .bool false, .bool false, .int .i64 0, .int .i64 0, .int .i64 0, .int .i64 0, .int .i64 0, .int .i64 0, .int .i64 0, .int .i64 0, .bool false] 30)).alloc (.cells #[.bool true, .bool true, .bool true, .int .i64 (y : Int), .int .i64 0, .int .i64 0, .int .i64 ((r : Int) / 3600), .int .i64 ((r : Int) / 60 % 60), .int .i64 ((r : Int) % 60), .int .i64 (j : Int), .int .i64 0, .bool false] 30) = wr)
  case atStart => exact ⟨n / 366, by omega, HYY, HN0, rfl⟩
  case round =>
    obtain ⟨y, hyg, HYg, HNg, rfl⟩ := hrel
    have HF1 := Lib.hid (HF.out (y + 1) (by omega))
    rw [show ((y + 1 : Nat) : Int) = (y : Int) + 1 by omega] at HF1
    have hfh := Ins.first_hi (y + 1)
    by_cases hle : Ins.first (y + 1) ≤ n
    · obtain ⟨g', hg'⟩ : ∃ g', gk = g' + 1 := by
        refine ⟨gk - 1, ?_⟩
        apply Classical.byContradiction
        intro h
        obtain rfl : gk = 0 := by omega
        have h1 := HNg.out
        have h2 := Ins.first_mono (a := y) (b := y + 1) (by omega)
        rw [Nat.add_zero] at h1
        omega
      subst hg'
      have HY2 : Hid (Y = Ins.yearF g' (y + 1) n) := Lib.hid (by have := HYg.out; unfold Ins.yearF at this; rw [if_pos hle] at this; exact this)
      have HN2 : Hid (n < Ins.first (y + 1 + g')) := Lib.hid (by have := HNg.out; rw [show y + (g' + 1) = y + 1 + g' by omega] at this; exact this)
      have HF2 : Hid (∀ w1, Calls Tryd.prog 34 #[.int .i64 ((y : Int) + 1), .int .i64 1, .int .i64 1] w1 fun e w' => e = .returned (.int .i64 ((Ins.first (y + 1) : Nat) - 719528)) ∧ w1 = w') := Lib.hid (fun w1 => (HF1.out w1).mono fun e w' h => ⟨h.1.trans (by congr 2; show ((Ins.first (y + 1) : Nat) : Int) + ((Ins.cum (y + 1) 0 : Nat) : Int) - 719528 + ((1 : Nat) : Int) - 1 = _; show ((Ins.first (y + 1) : Nat) : Int) + 0 - 719528 + 1 - 1 = _; omega), h.2⟩)
      generalize Ins.first (y + 1) = F at *
      clear HYg HNg HYY HN0 HOK HC12 HM HF HL HF1 e1 e2 e3
      go_wp2_with (go_at_call 34; with_reducible refine (HF2.out _).mono ?_; rintro e w5 ⟨rfl, rfl⟩)
      go_roundg g'
      case measure => omega
      case rel => exact ⟨y + 1, by omega, HY2, HN2, rfl⟩
    · have hYy : Y = y := by
        have := HYg.out
        cases gk with
        | zero => exact this
        | succ g => unfold Ins.yearF at this; rw [if_neg hle] at this; exact this
      subst hYy
      have hb := Ins.first_hi Y
      have ho1 := HOK.out.1
      have hc := HC12.out
      have HFY := Lib.hid (HF.out Y (by omega))
      have HF2 : Hid (∀ w1, Calls Tryd.prog 34 #[.int .i64 ((Y : Int) + 1), .int .i64 1, .int .i64 1] w1 fun e w' => e = .returned (.int .i64 ((Ins.first (Y + 1) : Nat) - 719528)) ∧ w1 = w') := Lib.hid (fun w1 => (HF1.out w1).mono fun e w' h => ⟨h.1.trans (by congr 2; show ((Ins.first (Y + 1) : Nat) : Int) + 0 - 719528 + 1 - 1 = _; omega), h.2⟩)
      have HF3 : Hid (∀ w1, Calls Tryd.prog 34 #[.int .i64 (Y : Int), .int .i64 1, .int .i64 1] w1 fun e w' => e = .returned (.int .i64 ((Ins.first Y : Nat) - 719528)) ∧ w1 = w') := Lib.hid (fun w1 => (HFY.out w1).mono fun e w' h => ⟨h.1.trans (by congr 2; show ((Ins.first Y : Nat) : Int) + 0 - 719528 + 1 - 1 = _; omega), h.2⟩)
      obtain ⟨N, hN⟩ : ∃ N, N = n - Ins.first Y := ⟨_, rfl⟩
      have hN2 : Hid ((n : Int) - 719528 - ((Ins.first Y : Nat) - 719528) = (N : Int)) := Lib.hid (by omega)
      have hNc : Hid (N + Ins.cum Y (1 - 1) < Ins.cum Y (1 - 1 + 12)) := Lib.hid (by
        show N + 0 < Ins.cum Y 12
        omega)
      rw [← hN] at HM
      have hNl : N < 3652425 := by omega
      obtain ⟨F1, hF1⟩ : ∃ F1, F1 = Ins.first (Y + 1) := ⟨_, rfl⟩
      rw [← hF1] at HF2 hle hfh
      clear HYg HNg HYY HN0 hN hc HC12 HOK hF1 HF1 HFY e1 e2 e3
      obtain ⟨F, hF⟩ : ∃ F, F = Ins.first Y := ⟨_, rfl⟩
      rw [← hF] at HF3 hN2 ho1 hb
      clear hF
      go_wp2_with (first | (go_at_call 34; with_reducible refine (HF2.out _).mono ?_; rintro e w5 ⟨rfl, rfl⟩) | (go_at_call 34; with_reducible refine (HF3.out _).mono ?_; rintro e w6 ⟨rfl, rfl⟩))
      rw [hN2.out]
      go_loopg [6] 12 (fun g nv wr => ∃ q m : Nat, nv = .int .i64 (q : Int) ∧ m + g = 13 ∧ 1 ≤ m ∧ q < 3652425 ∧ Hid (M = Ins.monthF g Y m q) ∧ Hid (q + Ins.cum Y (m - 1) < Ins.cum Y (m - 1 + g)) ∧ (w.alloc (.cells #[.bool false, .bool false, .bool false, .int .i64 0, .int .i64 0, .int .i64 0, .int .i64 0, .int .i64 0, .int .i64 0, .int .i64 0, .int .i64 0, .bool false] 30)).alloc (.cells #[.bool true, .bool true, .bool true, .int .i64 (Y : Int), .int .i64 (m : Int), .int .i64 0, .int .i64 ((r : Int) / 3600), .int .i64 ((r : Int) / 60 % 60), .int .i64 ((r : Int) % 60), .int .i64 (j : Int), .int .i64 0, .bool false] 30) = wr)
      case atStart => exact ⟨N, 1, rfl, rfl, Nat.le_refl _, hNl, HM, hNc, rfl⟩
      case round =>
        obtain ⟨q, m, rfl, hmg, hm1, hqk, HMg, HCg, rfl⟩ := hrel
        obtain ⟨g', hg'⟩ : ∃ g', gk = g' + 1 := by
          refine ⟨gk - 1, ?_⟩
          apply Classical.byContradiction
          intro h
          obtain rfl : gk = 0 := by omega
          have h1 := HCg.out
          rw [Nat.add_zero] at h1
          omega
        subst hg'
        have HLm := Lib.hid (fun w1 => HL.out Y m (by omega) hm1 (by omega) w1)
        have hl := Ins.mlen_bd Y m
        by_cases hle2 : Ins.mlen Y m ≤ q
        · have HM2 : Hid (M = Ins.monthF g' Y (m + 1) (q - Ins.mlen Y m)) := Lib.hid (by have := HMg.out; unfold Ins.monthF at this; rw [if_pos hle2] at this; exact this)
          have HC2 : Hid (q - Ins.mlen Y m + Ins.cum Y (m + 1 - 1) < Ins.cum Y (m + 1 - 1 + g')) := Lib.hid (by
            have h1 := HCg.out
            have e1 : Ins.cum Y (m - 1 + 1) = Ins.cum Y (m - 1) + Ins.mlen Y (m - 1 + 1) := rfl
            rw [show m - 1 + 1 = m by omega] at e1
            rw [show m - 1 + (g' + 1) = m + g' by omega] at h1
            rw [Nat.add_sub_cancel]
            omega)
          obtain ⟨L, hL⟩ : ∃ L, L = Ins.mlen Y m := ⟨_, rfl⟩
          rw [← hL] at HLm hle2 HM2 HC2 hl
          obtain ⟨k2, hk2⟩ : ∃ k2, k2 = q - L := ⟨_, rfl⟩
          rw [← hk2] at HM2 HC2
          have hk3 : Hid ((q : Int) - (L : Int) = (k2 : Int)) := Lib.hid (by omega)
          have hk4 : k2 < 3652425 := by omega
          clear hL HMg HCg HM hk2 HF HL
          go_wp2_with (go_at_call 36; with_reducible refine (HLm.out _).mono ?_; rintro e w7 ⟨rfl, rfl⟩)
          rw [hk3.out]
          go_roundg g'
          case measure => omega
          case rel => exact ⟨k2, m + 1, rfl, by omega, by omega, hk4, HM2, HC2, rfl⟩
        · have hMe : M = (m, q) := by
            have := HMg.out
            unfold Ins.monthF at this
            rw [if_neg hle2] at this
            exact this
          subst hMe
          obtain ⟨L, hL⟩ : ∃ L, L = Ins.mlen Y m := ⟨_, rfl⟩
          rw [← hL] at HLm hle2 hl
          clear hL HMg HCg HM HF HL hNc
          go_wp2_with (go_at_call 36; with_reducible refine (HLm.out _).mono ?_; rintro e w7 ⟨rfl, rfl⟩)
          refine bodyPost_ret (v := .agg #[.bool true, .bool true, .bool true, .int .i64 (Y : Int), .int .i64 (m : Int), .int .i64 ((q : Int) + 1), .int .i64 ((r : Int) / 3600), .int .i64 ((r : Int) / 60 % 60), .int .i64 ((r : Int) % 60), .int .i64 (j : Int), .int .i64 0, .bool false]) (by exact results_cell_row rfl _ _ w.heap.size 30 #[.bool true, .bool true, .bool true, .int .i64 (Y : Int), .int .i64 (m : Int), .int .i64 ((q : Int) + 1), .int .i64 ((r : Int) / 3600), .int .i64 ((r : Int) / 60 % 60), .int .i64 ((r : Int) % 60), .int .i64 (j : Int), .int .i64 0, .bool false] _ _ rfl (Blk.alloc (Blk.new _ _ _) _) Tryd.underlying30 rfl (by kernel_rfl)) rfl ?_
          exact ⟨rfl, (below_alloc _).trans ((below_alloc _).mono (below_alloc _).size)⟩
end Go.Proofs.YtbficmdjblimfaaDoor
