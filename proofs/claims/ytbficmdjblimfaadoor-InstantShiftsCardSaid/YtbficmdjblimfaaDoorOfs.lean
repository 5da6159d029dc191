/-
  instant.OfSeconds by its contract.
-/
import Derived.Test.YtbficmdjblimfaaDoorSec
import Derived.Deep.Cut
import Derived.Deep.CutRange
namespace Go.Proofs.YtbficmdjblimfaaDoor
open Go.RowKit
def resV : Ins.R → ByteArray × Int
  | .ok t => (⟨t.toArray⟩, 0)
  | .bad e => (⟨#[]⟩, (e : Int))
def RetR (w : World) (r : Ins.R) (e : Go.Ending) (w' : World) : Prop := e = .returned (.tuple #[.string (resV r).1, .int .i64 (resV r).2]) ∧ Below w.heap.size w w'
set_option maxRecDepth 100000 in
set_option maxHeartbeats 8000000 in
theorem ofSeconds_any (n ns : Int) (w : World) (b1 : -9223372036854775808 ≤ n) (b2 : n ≤ 9223372036854775807) (b3 : -9223372036854775808 ≤ ns) (b4 : ns ≤ 9223372036854775807) (hE : EnvI w) :
    Calls Tryd.prog 19 #[.int .i64 n, .int .i64 ns] w (RetR w (Ins.ofSeconds n ns)) := by
  unfold Ins.ofSeconds
  by_cases c1 : ns < 0 ∨ 999999999 < ns
  · rw [if_pos c1]
    rcases c1 with c1 | c1
    · go_enter Tryd.func19, Tryd.ntmps19
      go_wp2_with fail
      go_ret2
      exact ⟨rfl, Below.refl _ _⟩
    · have c2 : ¬ ns < 0 := by omega
      go_enter Tryd.func19, Tryd.ntmps19
      go_wp2_with fail
      go_ret2
      exact ⟨rfl, Below.refl _ _⟩
  · rw [if_neg c1]
    have d1 : ¬ ns < 0 := by omega
    have d2 : ¬ 999999999 < ns := by omega
    clear c1
    by_cases c3 : n < -Ins.epoch ∨ (Ins.top : Int) - Ins.epoch ≤ n
    · rw [if_pos c3]
      unfold Ins.epoch Ins.top at c3
      rcases c3 with c3 | c3
      · have c4 : n < -62167219200 := c3
        clear c3
        go_enter Tryd.func19, Tryd.ntmps19
        go_wp2_with fail
        go_ret2
        exact ⟨rfl, Below.refl _ _⟩
      · have c4 : 253402300800 ≤ n := by omega
        clear c3
        go_enter Tryd.func19, Tryd.ntmps19
        go_wp2_with fail
        go_ret2
        exact ⟨rfl, Below.refl _ _⟩
    · rw [if_neg c3]
      obtain ⟨k, hk⟩ : ∃ k : Nat, k = (n + Ins.epoch).toNat := ⟨_, rfl⟩
      obtain ⟨j, hj⟩ : ∃ j : Nat, j = ns.toNat := ⟨_, rfl⟩
      rw [← hk, ← hj]
      obtain rfl : ns = (j : Int) := by omega
      unfold Ins.epoch Ins.top at c3
      unfold Ins.epoch at hk
      have hkt : k < Ins.top := by unfold Ins.top; omega
      obtain ⟨hwf, _, _⟩ := Ins.ofS_wf k j hkt (by omega)
      have hq : k / 86400 < 3652425 := by unfold Ins.top at hkt; omega
      have HD := Lib.hid (fun w1 => date_any (k / 86400) hq w1)
      have h60 : k % 86400 % 60 = k % 60 := by omega
      have HX : (⟨true, true, (Ins.dateOf (k / 86400)).1, (Ins.dateOf (k / 86400)).2.1, (Ins.dateOf (k / 86400)).2.2, k % 86400 / 3600, k % 86400 / 60 % 60, k % 86400 % 60, j, 0, 0, 0⟩ : Ins.M).text = (Ins.ofS k j).text := by
        rw [h60]; rfl
      have HT := Lib.hid (fun w1 (hE : EnvI w1) => text_any ⟨true, true, (Ins.dateOf (k / 86400)).1, (Ins.dateOf (k / 86400)).2.1, (Ins.dateOf (k / 86400)).2.2, k % 86400 / 3600, k % 86400 / 60 % 60, k % 86400 % 60, j, 0, 0, 0⟩ w1 hwf.y hwf.mo hwf.d hwf.h hwf.mi (by rw [h60]; exact hwf.s) hwf.ns (.inl rfl) hE)
      rw [HX] at HT
      obtain ⟨TX, hTX⟩ : ∃ TX : ByteArray, TX = ⟨(Ins.ofS k j).text.toArray⟩ := ⟨_, rfl⟩
      rw [← hTX] at HT
      unfold momV shape at HT
      simp only [if_true, Nat.reduceAdd] at HT
      have HTX : Hid (TX.data.toList = (Ins.ofS k j).text) := Lib.hid (by rw [hTX])
      have htz : TX.size ≤ 40 := by
        rw [hTX]
        show (Ins.ofS k j).text.length ≤ 40
        have h9 := (Ins.strip_frac j (by omega)).2.1
        have hf : (Ins.fracT j).length ≤ 10 := by
          unfold Ins.fracT
          by_cases h0 : j = 0
          · rw [if_pos h0]; exact Nat.zero_le _
          · rw [if_neg h0, List.length_cons]; omega
        unfold Ins.M.text
        simp only [List.length_append, Ins.ofS, Ins.date_form, Ins.hms_form, if_true, Bool.and_self, List.length_cons, List.length_nil]
        omega
      clear HX hTX h60
      generalize Ins.dateOf (k / 86400) = YMD at *
      have hr : k % 86400 < 86400 := Nat.mod_lt _ (by decide)
      have e0 : n = (k / 86400 : Nat) * 86400 + (k % 86400 : Nat) - 62167219200 := by omega
      generalize k / 86400 = q at *
      generalize k % 86400 = r at *
      obtain ⟨Y, Mo, D⟩ := YMD
      simp only at HD HT
      have HT : Hid (∀ w1, EnvI w1 → Calls Tryd.prog 28 #[.agg #[.int .i64 3, .int .i64 (Y : Int), .int .i64 (Mo : Int), .int .i64 (D : Int), .int .i64 ((r : Int) / 3600), .int .i64 ((r : Int) / 60 % 60), .int .i64 ((r : Int) % 60), .int .i64 0, .int .i64 0, .int .i64 (j : Int), .int .u8 0]] w1 fun e w' => e = .returned (.string TX) ∧ Below w1.heap.size w1 w') := HT
      have a1 : ¬ n < -62167219200 := by omega
      have a2 : ¬ 253402300800 ≤ n := by omega
      have HE0 := Lib.hid e0
      clear hwf hk hj hkt c3 e0
      go_enter Tryd.func19, Tryd.ntmps19
      go_upto_region 5 with fail
      go_cut [6, 7] from 25 to 28 (fun v6 v7 wx => ∃ y x : Int, v6 = .int .i64 y ∧ v7 = .int .i64 x ∧ Hid (y = (q : Int) - 719528 ∧ x = (r : Int) ∨ y = (q : Int) - 719527 ∧ x = (r : Int) - 86400 ∧ x < 0) ∧ w = wx)
      case first =>
        clear HD HT HTX
        have e0 := HE0.out
        clear HE0
        by_cases hn : 0 ≤ n
        · have t1 : n / 86400 = (q : Int) - 719528 := by omega
          have t2 : n % 86400 = (r : Int) := by omega
          clear e0
          go_wp2_with fail
          go_meet
          case rel => exact ⟨_, _, rfl, rfl, Lib.hid (.inl ⟨rfl, rfl⟩), rfl⟩
        · have u1 := Int.tmod_add_mul_tdiv n 86400
          have u2 := Int.lt_tmod_of_pos n (show (0 : Int) < 86400 by decide)
          have u3 : n.tmod 86400 ≤ 0 := by
            have := Int.tmod_nonneg (a := -n) 86400 (by omega)
            rw [Int.neg_tmod] at this
            omega
          by_cases hr0 : r = 0
          · subst hr0
            have t1 : n.tdiv 86400 = (q : Int) - 719528 := by omega
            have t2 : n.tmod 86400 = 0 := by omega
            clear e0 u1 u2 u3
            go_wp2_with fail
            go_meet
            case rel => exact ⟨_, _, rfl, rfl, Lib.hid (.inl ⟨rfl, rfl⟩), rfl⟩
          · have t1 : n.tdiv 86400 = (q : Int) - 719527 := by omega
            have t2 : n.tmod 86400 = (r : Int) - 86400 := by omega
            clear e0 u1 u2 u3
            go_wp2_with fail
            go_meet
            case rel => exact ⟨_, _, rfl, rfl, Lib.hid (.inr ⟨rfl, rfl, by omega⟩), rfl⟩
      case rest =>
        obtain ⟨y, x, rfl, rfl, HXY, rfl⟩ := hcut
        clear HE0
        go_upto_if 30 with fail
        obtain ⟨b, hb⟩ : ∃ b, b = decide (x < 0) := ⟨_, rfl⟩
        rw [← hb]
        have HB := Lib.hid hb
        clear hb
        go_cut [6, 7] from 31 to 34 (fun v6 v7 wx => v6 = .int .i64 ((q : Int) - 719528) ∧ v7 = .int .i64 (r : Int) ∧ w = wx)
        case first =>
          clear HD HT HTX
          rcases HXY.out with ⟨g1, g2⟩ | ⟨g1, g2, g3⟩
          · obtain rfl : b = false := by rw [HB.out]; exact decide_eq_false (by omega)
            have G1 := Lib.hid g1
            have G2 := Lib.hid g2
            clear HXY HB g1 g2
            go_wp2_with fail
            go_meet
            case rel => exact ⟨congrArg _ G1.out, congrArg _ G2.out, rfl⟩
          · obtain rfl : b = true := by rw [HB.out]; exact decide_eq_true g3
            have t3 : Hid (y - 1 = (q : Int) - 719528) := Lib.hid (by omega)
            have t4 : Hid (x + 86400 = r) := Lib.hid (by omega)
            have t6 : -86400 ≤ x := by omega
            have t7 : -719527 ≤ y := by omega
            have t8 : y ≤ 3652425 := by omega
            clear HXY g1 g2 HB
            go_wp2_with fail
            go_meet
            case rel => exact ⟨congrArg _ t3.out, congrArg _ t4.out, rfl⟩
        case rest =>
          obtain ⟨rfl, rfl, rfl⟩ := hcut
          go_wp2_with (first | (go_at_call 33; with_reducible refine (HD.out _).mono ?_; rintro e w3 ⟨rfl, hb3⟩) | (go_at_call 28; with_reducible refine (HT.out _ (hE.below (hb3.alloc hb3.size _))).mono ?_; rintro e w4 ⟨rfl, hb4⟩))
          go_ret2
          refine ⟨congrArg (fun x => Go.Ending.returned (Value.tuple #[.string x, .int .i64 0])) (ba_of ?_), (hb3.alloc hb3.size _).trans (hb4.mono (hb3.alloc hb3.size _).size)⟩
          rw [app_lst, HTX.out]
end Go.Proofs.YtbficmdjblimfaaDoor
