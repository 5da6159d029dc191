/-
  InstantMakes: true at every pair of numbers.
-/
import Derived.Test.YtbficmdjblimfaaDoorIne
namespace Go.Proofs.YtbficmdjblimfaaDoor
open Go.RowKit
set_option maxRecDepth 100000 in
set_option maxHeartbeats 8000000 in
theorem instantMakes_any (n ns : Int) (b1 : -9223372036854775808 ≤ n) (b2 : n ≤ 9223372036854775807) (b3 : -9223372036854775808 ≤ ns) (b4 : ns ≤ 9223372036854775807) (w : World) (hE : EnvI w) :
    Calls Tryd.prog 6 #[.int .i64 n, .int .i64 ns] w fun e w' => e = .returned (.bool true) ∧ Below w.heap.size w w' := by
  have HAw : Hid (∀ w1, Below w.heap.size w w1 → Calls Tryd.prog 10 #[] w1 fun e w2 => e = .returned (.bool true) ∧ Below w.heap.size w w2) := Lib.hid (fun w1 hb => (awake_any w1 (hE.below hb)).mono fun e w2 h => ⟨h.1, below_tr hb h.2⟩)
  have hB0 : Below w.heap.size w w := Below.refl _ _
  have HO : Hid (∀ w1, Below w.heap.size w w1 → Calls Tryd.prog 19 #[.int .i64 n, .int .i64 ns] w1 fun e w2 => e = .returned (.tuple #[.string (resV (Ins.ofSeconds n ns)).1, .int .i64 (resV (Ins.ofSeconds n ns)).2]) ∧ Below w.heap.size w w2) := Lib.hid (fun w1 hb => (ofSeconds_any n ns w1 b1 b2 b3 b4 (hE.below hb)).mono fun e w2 h => ⟨h.1, below_tr hb h.2⟩)
  cases ho : Ins.ofSeconds n ns with
  | bad c =>
    rw [ho] at HO
    unfold Ins.ofSeconds at ho
    by_cases c1 : ns < 0 ∨ 999999999 < ns
    · rw [if_pos c1] at ho
      cases ho
      have HO1 : Hid (∀ w1, Below w.heap.size w w1 → Calls Tryd.prog 19 #[.int .i64 n, .int .i64 ns] w1 fun e w2 => e = .returned (.tuple #[.string ⟨#[]⟩, .int .i64 2]) ∧ Below w.heap.size w w2) := HO
      clear hE HO
      rcases c1 with c1 | c1
      · go_enter Tryd.func6, Tryd.ntmps6
        go_wp2_with (first | (go_at_call 10; with_reducible refine (HAw.out _ (by assumption)).mono ?_; rintro e w5 ⟨rfl, hb5⟩) | (go_at_call 19; with_reducible refine (HO1.out _ (by assumption)).mono ?_; rintro e w5 ⟨rfl, hb5⟩))
        go_ret
        exact ⟨rfl, by assumption⟩
      · have c2 : ¬ ns < 0 := by omega
        go_enter Tryd.func6, Tryd.ntmps6
        go_wp2_with (first | (go_at_call 10; with_reducible refine (HAw.out _ (by assumption)).mono ?_; rintro e w5 ⟨rfl, hb5⟩) | (go_at_call 19; with_reducible refine (HO1.out _ (by assumption)).mono ?_; rintro e w5 ⟨rfl, hb5⟩))
        go_ret
        exact ⟨rfl, by assumption⟩
    · rw [if_neg c1] at ho
      have d1 : ¬ ns < 0 := by omega
      have d2 : ¬ 999999999 < ns := by omega
      by_cases c2 : n < -Ins.epoch ∨ (Ins.top : Int) - Ins.epoch ≤ n
      · rw [if_pos c2] at ho
        cases ho
        have HO1 : Hid (∀ w1, Below w.heap.size w w1 → Calls Tryd.prog 19 #[.int .i64 n, .int .i64 ns] w1 fun e w2 => e = .returned (.tuple #[.string ⟨#[]⟩, .int .i64 13]) ∧ Below w.heap.size w w2) := HO
        replace c2 : n < -62167219200 ∨ 253402300799 < n := by unfold Ins.epoch Ins.top at c2; omega
        clear hE HO c1
        rcases c2 with c2 | c2
        · go_enter Tryd.func6, Tryd.ntmps6
          go_wp2_with (first | (go_at_call 10; with_reducible refine (HAw.out _ (by assumption)).mono ?_; rintro e w5 ⟨rfl, hb5⟩) | (go_at_call 19; with_reducible refine (HO1.out _ (by assumption)).mono ?_; rintro e w5 ⟨rfl, hb5⟩))
          go_ret
          exact ⟨rfl, by assumption⟩
        · have c3 : ¬ n < -62167219200 := by omega
          go_enter Tryd.func6, Tryd.ntmps6
          go_wp2_with (first | (go_at_call 10; with_reducible refine (HAw.out _ (by assumption)).mono ?_; rintro e w5 ⟨rfl, hb5⟩) | (go_at_call 19; with_reducible refine (HO1.out _ (by assumption)).mono ?_; rintro e w5 ⟨rfl, hb5⟩))
          go_ret
          exact ⟨rfl, by assumption⟩
      · rw [if_neg c2] at ho
        cases ho
  | ok t =>
    rw [ho] at HO
    obtain ⟨k, j, h1, h2, h3, h4, h5, h6⟩ := secs_of ho
    have hsz := ofs_len ho
    subst h3
    subst h4
    have hw := Ins.ofS_wf k j h1 h2
    have HS : Hid (∀ w1, Below w.heap.size w w1 → Calls Tryd.prog 17 #[.string ⟨t.toArray⟩] w1 fun e w2 => e = .returned (.tuple #[.int .i64 ((k : Int) - 62167219200), .int .i64 (j : Int), .int .i64 0]) ∧ Below w.heap.size w w2) := Lib.hid (fun w1 hb => by have h := iseconds_any ⟨t.toArray⟩ w1 (by rw [bsz]; omega) (hE.below hb); rw [show (⟨t.toArray⟩ : ByteArray).data.toList = t from rfl, h6] at h;  exact h.mono fun e w2 h => ⟨h.1, below_tr hb h.2⟩)
    have HF : Hid (∀ w1, Below w.heap.size w w1 → Calls Tryd.prog 22 #[.int .i64 ((k : Int) - 62167219200), .int .i64 (j : Int)] w1 fun e w2 => e = .returned (tV (Ins.ofS k j)) ∧ Below w.heap.size w w2) := Lib.hid (fun w1 hb => (rof_any k j h1 h2 w1).mono fun e w2 h => ⟨h.1, below_tr hb h.2⟩)
    have HT : Hid (∀ w1, Below w.heap.size w w1 → Calls Tryd.prog 21 #[tV (Ins.ofS k j)] w1 fun e w2 => e = .returned (.string ⟨t.toArray⟩) ∧ Below w.heap.size w w2) := Lib.hid (fun w1 hb => by have h := show_any (Ins.ofS k j) w1 hw.1.y hw.1.mo hw.1.d hw.1.h hw.1.mi hw.1.s hw.1.ns hw.1.some_ (fun h => (hw.1.notime h).2.2.2); rw [show (Ins.ofS k j).text ++ (Ins.ofS k j).tail = t from h5.symm] at h;  exact h.mono fun e w2 h => ⟨h.1, below_tr hb h.2⟩)
    have HO1 : Hid (∀ w1, Below w.heap.size w w1 → Calls Tryd.prog 19 #[.int .i64 ((k : Int) - 62167219200), .int .i64 (j : Int)] w1 fun e w2 => e = .returned (.tuple #[.string ⟨t.toArray⟩, .int .i64 0]) ∧ Below w.heap.size w w2) := HO
    have e1 : ¬ (j : Int) < 0 := by omega
    have e2 : ¬ 999999999 < (j : Int) := by omega
    unfold Ins.top at h1
    have e3 : ¬ (k : Int) - 62167219200 < -62167219200 := by omega
    have e4 : ¬ 253402300799 < (k : Int) - 62167219200 := by omega
    generalize (⟨t.toArray⟩ : ByteArray) = TX at *
    have hV : ∃ V, V = tV (Ins.ofS k j) := ⟨_, rfl⟩
    obtain ⟨V, hV⟩ := hV
    rw [← hV] at HF HT
    generalize (k : Int) - 62167219200 = N at *
    have hss := str_self TX
    clear hE HO ho h1 h2 h5 h6 hsz hw hV
    go_enter Tryd.func6, Tryd.ntmps6
    go_wp2_with (first | (go_at_call 10; with_reducible refine (HAw.out _ (by assumption)).mono ?_; rintro e w5 ⟨rfl, hb5⟩) | (go_at_call 19; with_reducible refine (HO1.out _ (by assumption)).mono ?_; rintro e w5 ⟨rfl, hb5⟩) | (go_at_call 17; with_reducible refine (HS.out _ (by assumption)).mono ?_; rintro e w5 ⟨rfl, hb5⟩) | (go_at_call 22; with_reducible refine (HF.out _ (by assumption)).mono ?_; rintro e w5 ⟨rfl, hb5⟩) | (go_at_call 21; with_reducible refine (HT.out _ (by assumption)).mono ?_; rintro e w5 ⟨rfl, hb5⟩))
    go_ret
    exact ⟨rfl, by assumption⟩
end Go.Proofs.YtbficmdjblimfaaDoor
