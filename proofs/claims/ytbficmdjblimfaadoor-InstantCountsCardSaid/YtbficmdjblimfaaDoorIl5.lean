/-
  InstantCounts: true at every string.
-/
import Derived.Test.YtbficmdjblimfaaDoorIne
namespace Go.Proofs.YtbficmdjblimfaaDoor
open Go.RowKit
theorem wpList_load_T_g {w : World} {ops : Array Oper} {rest : List Oper} {o : Oper} {a : Act} {Q : Exit → Act → World → Prop} (x : Operand) (ho : o.op = .load 30 x) (g : Nat) (cs : Array Value) (hsz : cs.size = 12)
    (hw : Region.wanted o (yielded ops a.tmps) = true) (hx : a.eval x = .pointer (some ⟨g, 0, none⟩)) (hg : Blk w g 30 cs)
    (h : wpList Tryd.prog ops Q rest (a.put o.dst (.agg cs)) w) : wpList Tryd.prog ops Q (o :: rest) a w := by
  refine wpList_step fun K hK => ?_
  simp only [hw, if_true]
  unfold Oper.wp execOp
  simp only [ho, hx, Instr.loadAt, Instr.sureAddr, Sem.run_bind, Sem.run_pure, Result.andThen_ok, run_loadVar_row w g _ _ _ (0, 0) _ hg Tryd.underlying30 rfl (rowT.trans (by rw [hsz]))]
  exact hK _ _ h
set_option maxRecDepth 100000 in
set_option maxHeartbeats 8000000 in
theorem instantCounts_any (s : ByteArray) (w : World) (hE : EnvI w) :
    Calls Tryd.prog 5 #[.string s] w fun e w' => e = .returned (.bool true) ∧ Below w.heap.size w w' := by
  have HAw : Hid (∀ w1, Below w.heap.size w w1 → Calls Tryd.prog 10 #[] w1 fun e w2 => e = .returned (.bool true) ∧ Below w.heap.size w w2) := Lib.hid (fun w1 hb => (awake_any w1 (hE.below hb)).mono fun e w2 h => ⟨h.1, below_tr hb h.2⟩)
  have hB0 : Below w.heap.size w w := Below.refl _ _
  by_cases hs : 200 < s.size
  · clear hE
    go_enter Tryd.func5, Tryd.ntmps5
    go_wp2_with (first | (go_at_call 10; with_reducible refine (HAw.out _ (by assumption)).mono ?_; rintro e w5 ⟨rfl, hb5⟩))
    go_ret
    exact ⟨rfl, by assumption⟩
  have HA : Hid (∀ w1, Below w.heap.size w w1 → Calls Tryd.prog 17 #[.string s] w1 (RetS3 w1 (secsOf s.data.toList))) := Lib.hid (fun w1 hb => iseconds_any s w1 (by omega) (hE.below hb))
  have HC : Hid (∀ w1, Below w.heap.size w w1 → Calls Tryd.prog 18 #[.string s] w1 (RetCn w1 (canonOf s.data.toList))) := Lib.hid (fun w1 hb => canon_any s w1 (by omega))
  cases hc : canonOf s.data.toList with
  | none =>
    have h1 : secsOf s.data.toList = none := by unfold secsOf; rw [hc]; rfl
    rw [h1] at HA
    rw [hc] at HC
    have HA2 : Hid (∀ w1, Below w.heap.size w w1 → Calls Tryd.prog 17 #[.string s] w1 fun e w2 => e = .returned (.tuple #[.int .i64 0, .int .i64 0, .int .i64 3]) ∧ Below w.heap.size w w2) := Lib.hid (fun w1 hb => (HA.out w1 hb).mono fun e w2 h => ⟨h.1, below_tr hb h.2⟩)
    have HC2 : Hid (∀ w1, Below w.heap.size w w1 → Calls Tryd.prog 18 #[.string s] w1 fun e w2 => e = .returned (.tuple #[.agg tZ, .bool false]) ∧ Below w.heap.size w w2) := Lib.hid (fun w1 hb => (HC.out w1 hb).mono fun e w2 h => ⟨h.1, below_tr hb h.2⟩)
    clear hE hc h1 HA HC
    go_enter Tryd.func5, Tryd.ntmps5
    go_wp2_with (first | (go_at_call 10; with_reducible refine (HAw.out _ (by assumption)).mono ?_; rintro e w5 ⟨rfl, hb5⟩) | (go_at_call 17; with_reducible refine (HA2.out _ (by assumption)).mono ?_; rintro e w5 ⟨rfl, hb5⟩) | (go_at_call 18; with_reducible refine (HC2.out _ (by assumption)).mono ?_; rintro e w5 ⟨rfl, hb5⟩; have b6 := below_al hb5 (.cells tZ 30)))
    go_ret
    exact ⟨rfl, by assumption⟩
  | some m =>
    obtain ⟨hrd, hsec, hi, hz, hrr, hd, ho, k, h1, h2⟩ := canon_secs hc
    rw [hsec] at HA
    rw [hc] at HC
    have hk : m.secs - Ins.epoch = (k : Int) - 62167219200 := by rw [h2]; rfl
    rw [hk] at HA ho
    unfold Ins.top at h1
    have hns := hrr.ns
    have HO : Hid (∀ w1, Below w.heap.size w w1 → Calls Tryd.prog 19 #[.int .i64 ((k : Int) - 62167219200), .int .i64 (m.ns : Int)] w1 fun e w2 => e = .returned (.tuple #[.string s, .int .i64 0]) ∧ Below w1.heap.size w1 w2) := Lib.hid (fun w1 hb => by have h := ofSeconds_any ((k : Int) - 62167219200) (m.ns : Int) w1 (by omega) (by omega) (by omega) (by omega) (hE.below hb); rw [ho] at h; exact h)
    have HS : Hid (∀ w1, Calls Tryd.prog 20 #[tV m] w1 fun e w2 => e = .returned (.int .i64 ((k : Int) - 62167219200)) ∧ Below w1.heap.size w1 w2) := Lib.hid (fun w1 => by have h := rseconds_any m w1 hrr.h hrr.mi hrr.s hrr.zh hrr.zm (by rcases hrr.z with h | h; exact .inl h; exact .inr h.1) hd; rw [hk] at h; exact h)
    have HA2 : Hid (∀ w1, Below w.heap.size w w1 → Calls Tryd.prog 17 #[.string s] w1 fun e w2 => e = .returned (.tuple #[.int .i64 ((k : Int) - 62167219200), .int .i64 (m.ns : Int), .int .i64 0]) ∧ Below w.heap.size w w2) := Lib.hid (fun w1 hb => (HA.out w1 hb).mono fun e w2 h => ⟨h.1, below_tr hb h.2⟩)
    have HC2 : Hid (∀ w1, Below w.heap.size w w1 → Calls Tryd.prog 18 #[.string s] w1 fun e w2 => e = .returned (.tuple #[tV m, .bool true]) ∧ Below w.heap.size w w2) := Lib.hid (fun w1 hb => (HC.out w1 hb).mono fun e w2 h => ⟨h.1, below_tr hb h.2⟩)
    have HV : Hid (tV m = .agg (tC m.date m.time (m.z != 0) m.y m.mo m.d m.h m.mi m.s m.ns (off m) (late m))) := Lib.hid rfl
    rw [HV.out] at HC2 HS
    have hss := str_self s
    clear hE hc hrd hsec hi hz hrr hd ho hk h2 HA HC HV
    generalize (k : Int) - 62167219200 = NN at *
    go_enter Tryd.func5, Tryd.ntmps5
    go_wp2_with (first | (go_at_call 10; with_reducible refine (HAw.out _ (by assumption)).mono ?_; rintro e w5 ⟨rfl, hb5⟩) | (go_at_call 17; with_reducible refine (HA2.out _ (by assumption)).mono ?_; rintro e w5 ⟨rfl, hb5⟩) | (go_at_call 18; with_reducible refine (HC2.out _ (by assumption)).mono ?_; rintro e w5 ⟨rfl, hb5⟩; have x5 : Blk (w5.alloc (.cells (tC m.date m.time (m.z != 0) m.y m.mo m.d m.h m.mi m.s m.ns (off m) (late m)) 30)) w5.heap.size 30 (tC m.date m.time (m.z != 0) m.y m.mo m.d m.h m.mi m.s m.ns (off m) (late m)) := Blk.new _ _ _; have b5 := below_al hb5 (.cells (tC m.date m.time (m.z != 0) m.y m.mo m.d m.h m.mi m.s m.ns (off m) (late m)) 30)) | (go_at_call 19; refine (HO.out _ b5).mono ?_; rintro e w7 ⟨rfl, hb7⟩; have x7 := x5.below hb7 x5.lt; have b7 := below_tr b5 hb7) | ((with_reducible refine wpList_load_T_g _ rfl w5.heap.size _ rfl ?_ ?_ x7 ?_); exact rfl; exact rfl) | (go_at_call 20; refine (HS.out _).mono ?_; rintro e w8 ⟨rfl, hb8⟩; have x8 := x7.below hb8 x7.lt; have b8 := below_tr b7 hb8; have c8 := x8.at_ 9))
    go_ret
    exact ⟨rfl, by assumption⟩
end Go.Proofs.YtbficmdjblimfaaDoor
