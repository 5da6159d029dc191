/-
  InstantReads: true at every string.
-/
import Derived.Test.YtbficmdjblimfaaDoorIne
namespace Go.Proofs.YtbficmdjblimfaaDoor
open Go.RowKit
set_option maxRecDepth 100000 in
set_option maxHeartbeats 8000000 in
theorem instantReads_any (s : ByteArray) (w : World) (hE : EnvI w) :
    Calls Tryd.prog 3 #[.string s] w fun e w' => e = .returned (.bool true) ∧ Below w.heap.size w w' := by
  have HAw : Hid (∀ w1, Below w.heap.size w w1 → Calls Tryd.prog 10 #[] w1 fun e w2 => e = .returned (.bool true) ∧ Below w.heap.size w w2) := Lib.hid (fun w1 hb => (awake_any w1 (hE.below hb)).mono fun e w2 h => ⟨h.1, below_tr hb h.2⟩)
  have hB0 : Below w.heap.size w w := Below.refl _ _
  by_cases hs : 200 < s.size
  · clear hE
    go_enter Tryd.func3, Tryd.ntmps3
    go_wp2_with (first | (go_at_call 10; with_reducible refine (HAw.out _ (by assumption)).mono ?_; rintro e w5 ⟨rfl, hb5⟩))
    go_ret
    exact ⟨rfl, by assumption⟩
  · have HI : Hid (∀ w1, Below w.heap.size w w1 → Calls Tryd.prog 11 #[.string s] w1 fun e w2 => e = .returned (.tuple #[.string (resV (Ins.instant s.data.toList)).1, .int .i64 (resV (Ins.instant s.data.toList)).2]) ∧ Below w.heap.size w w2) := Lib.hid (fun w1 hb => (instant_any s w1 (by omega) (hE.below hb)).mono fun e w2 h => ⟨h.1, below_tr hb h.2⟩)
    have HR : Hid (∀ w1, Below w.heap.size w w1 → Calls Tryd.prog 12 #[.string s] w1 fun e w2 => e = .returned (.tuple #[.string (resV (Ins.instant s.data.toList)).1, .int .i64 (resV (Ins.instant s.data.toList)).2]) ∧ Below w.heap.size w w2) := Lib.hid (fun w1 hb => (rinstant_any s w1 (by omega)).mono fun e w2 h => ⟨h.1, below_tr hb h.2⟩)
    generalize (resV (Ins.instant s.data.toList)).1 = TX at *
    generalize (resV (Ins.instant s.data.toList)).2 = EX at *
    have hss := str_self TX
    have hee : (EX == EX) = true := beq_self_eq_true EX
    clear hE
    go_enter Tryd.func3, Tryd.ntmps3
    go_wp2_with (first | (go_at_call 10; with_reducible refine (HAw.out _ (by assumption)).mono ?_; rintro e w5 ⟨rfl, hb5⟩) | (go_at_call 11; with_reducible refine (HI.out _ (by assumption)).mono ?_; rintro e w5 ⟨rfl, hb5⟩) | (go_at_call 12; with_reducible refine (HR.out _ (by assumption)).mono ?_; rintro e w5 ⟨rfl, hb5⟩))
    go_ret
    exact ⟨rfl, by assumption⟩
end Go.Proofs.YtbficmdjblimfaaDoor
