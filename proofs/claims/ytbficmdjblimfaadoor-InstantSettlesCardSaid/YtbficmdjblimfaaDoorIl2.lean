/-
  InstantSettles: true at every string.
-/
import Derived.Test.YtbficmdjblimfaaDoorIne
namespace Go.Proofs.YtbficmdjblimfaaDoor
open Go.RowKit
set_option maxRecDepth 100000 in
set_option maxHeartbeats 8000000 in
theorem instantSettles_any (s : ByteArray) (w : World) (hE : EnvI w) :
    Calls Tryd.prog 8 #[.string s] w fun e w' => e = .returned (.bool true) ∧ Below w.heap.size w w' := by
  have HAw : Hid (∀ w1, Below w.heap.size w w1 → Calls Tryd.prog 10 #[] w1 fun e w2 => e = .returned (.bool true) ∧ Below w.heap.size w w2) := Lib.hid (fun w1 hb => (awake_any w1 (hE.below hb)).mono fun e w2 h => ⟨h.1, below_tr hb h.2⟩)
  have hB0 : Below w.heap.size w w := Below.refl _ _
  by_cases hs : 200 < s.size
  · clear hE
    go_enter Tryd.func8, Tryd.ntmps8
    go_wp2_with (first | (go_at_call 10; with_reducible refine (HAw.out _ (by assumption)).mono ?_; rintro e w5 ⟨rfl, hb5⟩))
    go_ret
    exact ⟨rfl, by assumption⟩
  · have HI : Hid (∀ w1, Below w.heap.size w w1 → Calls Tryd.prog 11 #[.string s] w1 fun e w2 => e = .returned (.tuple #[.string (resV (Ins.instant s.data.toList)).1, .int .i64 (resV (Ins.instant s.data.toList)).2]) ∧ Below w.heap.size w w2) := Lib.hid (fun w1 hb => (instant_any s w1 (by omega) (hE.below hb)).mono fun e w2 h => ⟨h.1, below_tr hb h.2⟩)
    have HL : Hid (∀ w1, Below w.heap.size w w1 → Calls Tryd.prog 13 #[.string s] w1 fun e w2 => e = .returned (.tuple #[.string (resV (Ins.localOf s.data.toList)).1, .int .i64 (resV (Ins.localOf s.data.toList)).2]) ∧ Below w.heap.size w w2) := Lib.hid (fun w1 hb => (local_any s w1 (by omega) (hE.below hb)).mono fun e w2 h => ⟨h.1, below_tr hb h.2⟩)
    cases hi : Ins.instant s.data.toList with
    | ok t =>
      have hl := Ins.instant_local hi
      rw [hi] at HI
      rw [hl] at HL
      have hsz := instant_len hi
      have hset := Ins.settle hi
      have hsh : shapeOf t = 0 := by unfold shapeOf; rw [Ins.instant_local hset]
      have HI2 : Hid (∀ w1, Below w.heap.size w w1 → Calls Tryd.prog 11 #[.string ⟨t.toArray⟩] w1 fun e w2 => e = .returned (.tuple #[.string ⟨t.toArray⟩, .int .i64 0]) ∧ Below w.heap.size w w2) := Lib.hid (fun w1 hb => by have h := instant_any ⟨t.toArray⟩ w1 (by rw [bsz]; omega) (hE.below hb); rw [show (⟨t.toArray⟩ : ByteArray).data.toList = t from rfl, hset] at h;  exact h.mono fun e w2 h => ⟨h.1, below_tr hb h.2⟩)
      have HS : Hid (∀ w1, Below w.heap.size w w1 → Calls Tryd.prog 16 #[.string ⟨t.toArray⟩] w1 fun e w2 => e = .returned (.int .i64 0) ∧ Below w.heap.size w w2) := Lib.hid (fun w1 hb => by have h := shape_any ⟨t.toArray⟩ w1 (by rw [bsz]; omega) (hE.below hb); rw [show (⟨t.toArray⟩ : ByteArray).data.toList = t from rfl, hsh] at h;  exact h.mono fun e w2 h => ⟨h.1, below_tr hb h.2⟩)
      have HI1 : Hid (∀ w1, Below w.heap.size w w1 → Calls Tryd.prog 11 #[.string s] w1 fun e w2 => e = .returned (.tuple #[.string ⟨t.toArray⟩, .int .i64 0]) ∧ Below w.heap.size w w2) := HI
      have HL1 : Hid (∀ w1, Below w.heap.size w w1 → Calls Tryd.prog 13 #[.string s] w1 fun e w2 => e = .returned (.tuple #[.string ⟨#[]⟩, .int .i64 3]) ∧ Below w.heap.size w w2) := HL
      generalize (⟨t.toArray⟩ : ByteArray) = TX at *
      have hss := str_self TX
      clear hE HI HL hi hl hsz hset hsh
      go_enter Tryd.func8, Tryd.ntmps8
      go_wp2_with (first | (go_at_call 10; with_reducible refine (HAw.out _ (by assumption)).mono ?_; rintro e w5 ⟨rfl, hb5⟩) | (go_at_call 11; with_reducible refine (HI1.out _ (by assumption)).mono ?_; rintro e w5 ⟨rfl, hb5⟩) | (go_at_call 11; with_reducible refine (HI2.out _ (by assumption)).mono ?_; rintro e w5 ⟨rfl, hb5⟩) | (go_at_call 13; with_reducible refine (HL1.out _ (by assumption)).mono ?_; rintro e w5 ⟨rfl, hb5⟩) | (go_at_call 16; with_reducible refine (HS.out _ (by assumption)).mono ?_; rintro e w5 ⟨rfl, hb5⟩))
      go_ret
      exact ⟨rfl, by assumption⟩
    | bad c =>
      have hc := instant_bad hi
      have hc0 : ((c : Int) == 0) = false := by rw [beq_eq_false_iff_ne]; omega
      cases hl : Ins.localOf s.data.toList with
      | bad d =>
        have hd := local_bad hl
        have hd0 : ((d : Int) == 0) = false := by rw [beq_eq_false_iff_ne]; omega
        rw [hi] at HI
        rw [hl] at HL
        have HI1 : Hid (∀ w1, Below w.heap.size w w1 → Calls Tryd.prog 11 #[.string s] w1 fun e w2 => e = .returned (.tuple #[.string ⟨#[]⟩, .int .i64 (c : Int)]) ∧ Below w.heap.size w w2) := HI
        have HL1 : Hid (∀ w1, Below w.heap.size w w1 → Calls Tryd.prog 13 #[.string s] w1 fun e w2 => e = .returned (.tuple #[.string ⟨#[]⟩, .int .i64 (d : Int)]) ∧ Below w.heap.size w w2) := HL
        clear hE HI HL hi hl hc hd
        go_enter Tryd.func8, Tryd.ntmps8
        go_wp2_with (first | (go_at_call 10; with_reducible refine (HAw.out _ (by assumption)).mono ?_; rintro e w5 ⟨rfl, hb5⟩) | (go_at_call 11; with_reducible refine (HI1.out _ (by assumption)).mono ?_; rintro e w5 ⟨rfl, hb5⟩) | (go_at_call 13; with_reducible refine (HL1.out _ (by assumption)).mono ?_; rintro e w5 ⟨rfl, hb5⟩))
        go_ret
        exact ⟨rfl, by assumption⟩
      | ok t =>
        have hi3 := Ins.local_instant hl
        rw [hi3] at HI
        rw [hl] at HL
        obtain ⟨m, _, _, _, hmt, _, hset⟩ := Ins.local_ok hl
        have hsz := local_len hl
        have HL2 : Hid (∀ w1, Below w.heap.size w w1 → Calls Tryd.prog 13 #[.string ⟨t.toArray⟩] w1 fun e w2 => e = .returned (.tuple #[.string ⟨t.toArray⟩, .int .i64 0]) ∧ Below w.heap.size w w2) := Lib.hid (fun w1 hb => by have h := local_any ⟨t.toArray⟩ w1 (by rw [bsz]; omega) (hE.below hb); rw [show (⟨t.toArray⟩ : ByteArray).data.toList = t from rfl, hset] at h;  exact h.mono fun e w2 h => ⟨h.1, below_tr hb h.2⟩)
        have HI1 : Hid (∀ w1, Below w.heap.size w w1 → Calls Tryd.prog 11 #[.string s] w1 fun e w2 => e = .returned (.tuple #[.string ⟨#[]⟩, .int .i64 3]) ∧ Below w.heap.size w w2) := HI
        have HL1 : Hid (∀ w1, Below w.heap.size w w1 → Calls Tryd.prog 13 #[.string s] w1 fun e w2 => e = .returned (.tuple #[.string ⟨t.toArray⟩, .int .i64 0]) ∧ Below w.heap.size w w2) := HL
        clear hmt
        generalize (⟨t.toArray⟩ : ByteArray) = TX at *
        have hss := str_self TX
        clear hE HI HL hi hl hi3 hset hsz hc hc0
        go_enter Tryd.func8, Tryd.ntmps8
        go_wp2_with (first | (go_at_call 10; with_reducible refine (HAw.out _ (by assumption)).mono ?_; rintro e w5 ⟨rfl, hb5⟩) | (go_at_call 11; with_reducible refine (HI1.out _ (by assumption)).mono ?_; rintro e w5 ⟨rfl, hb5⟩) | (go_at_call 13; with_reducible refine (HL1.out _ (by assumption)).mono ?_; rintro e w5 ⟨rfl, hb5⟩) | (go_at_call 13; with_reducible refine (HL2.out _ (by assumption)).mono ?_; rintro e w5 ⟨rfl, hb5⟩))
        go_ret
        exact ⟨rfl, by assumption⟩
end Go.Proofs.YtbficmdjblimfaaDoor
