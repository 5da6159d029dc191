/-
  InstantLocals: true at every string.
-/
import Derived.Test.YtbficmdjblimfaaDoorIne
namespace Go.Proofs.YtbficmdjblimfaaDoor
open Go.RowKit
set_option maxRecDepth 100000 in
set_option maxHeartbeats 8000000 in
theorem instantLocals_any (s : ByteArray) (w : World) (hE : EnvI w) :
    Calls Tryd.prog 4 #[.string s] w fun e w' => e = .returned (.bool true) ∧ Below w.heap.size w w' := by
  have HAw : Hid (∀ w1, Below w.heap.size w w1 → Calls Tryd.prog 10 #[] w1 fun e w2 => e = .returned (.bool true) ∧ Below w.heap.size w w2) := Lib.hid (fun w1 hb => (awake_any w1 (hE.below hb)).mono fun e w2 h => ⟨h.1, below_tr hb h.2⟩)
  have hB0 : Below w.heap.size w w := Below.refl _ _
  by_cases hs : 200 < s.size
  · clear hE
    go_enter Tryd.func4, Tryd.ntmps4
    go_wp2_with (first | (go_at_call 10; with_reducible refine (HAw.out _ (by assumption)).mono ?_; rintro e w5 ⟨rfl, hb5⟩))
    go_ret
    exact ⟨rfl, by assumption⟩
  have HI : Hid (∀ w1, Below w.heap.size w w1 → Calls Tryd.prog 13 #[.string s] w1 fun e w2 => e = .returned (.tuple #[.string (resV (Ins.localOf s.data.toList)).1, .int .i64 (resV (Ins.localOf s.data.toList)).2]) ∧ Below w.heap.size w w2) := Lib.hid (fun w1 hb => (local_any s w1 (by omega) (hE.below hb)).mono fun e w2 h => ⟨h.1, below_tr hb h.2⟩)
  have HR : Hid (∀ w1, Below w.heap.size w w1 → Calls Tryd.prog 14 #[.string s] w1 fun e w2 => e = .returned (.tuple #[.string (resV (Ins.localOf s.data.toList)).1, .int .i64 (resV (Ins.localOf s.data.toList)).2]) ∧ Below w.heap.size w w2) := Lib.hid (fun w1 hb => (rlocal_any s w1 (by omega)).mono fun e w2 h => ⟨h.1, below_tr hb h.2⟩)
  have HS : Hid (∀ w1, Below w.heap.size w w1 → Calls Tryd.prog 16 #[.string s] w1 fun e w2 => e = .returned (.int .i64 (shapeOf s.data.toList : Int)) ∧ Below w.heap.size w w2) := Lib.hid (fun w1 hb => (shape_any s w1 (by omega) (hE.below hb)).mono fun e w2 h => ⟨h.1, below_tr hb h.2⟩)
  cases hl : Ins.localOf s.data.toList with
  | bad c =>
    have hc := local_bad hl
    have hc0 : ((c : Int) == 0) = false := by rw [beq_eq_false_iff_ne]; omega
    have hcn : ((c : Int) != 0) = true := by unfold bne; rw [hc0]; rfl
    have hsh : shapeOf s.data.toList = 0 := by unfold shapeOf; rw [hl]
    rw [hl] at HI HR
    rw [hsh] at HS
    have HI2 : Hid (∀ w1, Below w.heap.size w w1 → Calls Tryd.prog 13 #[.string s] w1 fun e w2 => e = .returned (.tuple #[.string ⟨#[]⟩, .int .i64 (c : Int)]) ∧ Below w.heap.size w w2) := HI
    have HR2 : Hid (∀ w1, Below w.heap.size w w1 → Calls Tryd.prog 14 #[.string s] w1 fun e w2 => e = .returned (.tuple #[.string ⟨#[]⟩, .int .i64 (c : Int)]) ∧ Below w.heap.size w w2) := HR
    have HS2 : Hid (∀ w1, Below w.heap.size w w1 → Calls Tryd.prog 16 #[.string s] w1 fun e w2 => e = .returned (.int .i64 0) ∧ Below w.heap.size w w2) := HS
    have HD : Hid (∀ w1, Below w.heap.size w w1 → Calls Tryd.prog 15 #[.string s] w1 fun e w2 => (∃ (dt tm zn : Bool) (y mo d h mi sc ns off : Int) (lt ok : Bool), e = .returned (.tuple #[.agg (tC dt tm zn y mo d h mi sc ns off lt), .bool ok])) ∧ Below w.heap.size w w2) := Lib.hid (fun w1 hb => (rread_any s w1 (by omega)).mono fun e w2 h => by
      unfold RetRr at h
      refine ⟨?_, below_tr hb h.2⟩
      have h1 := h.1
      cases hr : Ins.read s.data.toList with
      | none =>
        rw [hr] at h1
        obtain ⟨a1, a2, a3, a4, a5, a6, a7, a8, a9, b1, b2, b3, h2⟩ := h1
        exact ⟨a1, a2, a3, a4, a5, a6, a7, a8, a9, b1, b2, b3, false, h2⟩
      | some m =>
        rw [hr] at h1
        exact ⟨_, _, _, _, _, _, _, _, _, _, _, _, true, h1⟩)
    clear hE hl hc hsh HI HR HS
    go_enter Tryd.func4, Tryd.ntmps4
    go_wp2_with (first | (go_at_call 10; with_reducible refine (HAw.out _ (by assumption)).mono ?_; rintro e w5 ⟨rfl, hb5⟩) | (go_at_call 13; with_reducible refine (HI2.out _ (by assumption)).mono ?_; rintro e w5 ⟨rfl, hb5⟩) | (go_at_call 14; with_reducible refine (HR2.out _ (by assumption)).mono ?_; rintro e w5 ⟨rfl, hb5⟩) | (go_at_call 15; with_reducible refine (HD.out _ (by assumption)).mono ?_; rintro e w5 ⟨⟨dt, tm, zn, y, mo, d, h, mi, sc, ns, off, lt, ok, rfl⟩, hb5⟩; have b6 := below_al hb5 (.cells (tC dt tm zn y mo d h mi sc ns off lt) 30)) | (go_at_call 16; with_reducible refine (HS2.out _ (by assumption)).mono ?_; rintro e w5 ⟨rfl, hb5⟩))
    go_ret
    exact ⟨rfl, by assumption⟩
  | ok t =>
    obtain ⟨m, hm, hz, hr, ht, hrt, hset⟩ := Ins.local_ok hl
    have hsz := local_len hl
    have hrr := Ins.read_rd hm
    rw [hl] at HI HR
    have hst : shapeOf t = shape m := by unfold shapeOf; rw [hset]; simp only; rw [if_pos trivial, hrt]
    have hsp := shape_pos hrr
    have hss2 : shapeOf s.data.toList = if t = s.data.toList then shape m else 0 := by unfold shapeOf; rw [hl]; simp only; rw [hm]
    rw [hss2] at HS
    have HI2 : Hid (∀ w1, Below w.heap.size w w1 → Calls Tryd.prog 13 #[.string s] w1 fun e w2 => e = .returned (.tuple #[.string ⟨t.toArray⟩, .int .i64 0]) ∧ Below w.heap.size w w2) := HI
    have HR2 : Hid (∀ w1, Below w.heap.size w w1 → Calls Tryd.prog 14 #[.string s] w1 fun e w2 => e = .returned (.tuple #[.string ⟨t.toArray⟩, .int .i64 0]) ∧ Below w.heap.size w w2) := HR
    have HT : Hid (∀ w1, Below w.heap.size w w1 → Calls Tryd.prog 16 #[.string ⟨t.toArray⟩] w1 fun e w2 => e = .returned (.int .i64 (shape m : Int)) ∧ Below w.heap.size w w2) := Lib.hid (fun w1 hb => by have h := shape_any ⟨t.toArray⟩ w1 (by rw [bsz]; omega) (hE.below hb); rw [show (⟨t.toArray⟩ : ByteArray).data.toList = t from rfl, hst] at h;  exact h.mono fun e w2 h => ⟨h.1, below_tr hb h.2⟩)
    have HD : Hid (∀ w1, Below w.heap.size w w1 → Calls Tryd.prog 15 #[.string s] w1 fun e w2 => e = .returned (.tuple #[tV m, .bool true]) ∧ Below w.heap.size w w2) := Lib.hid (fun w1 hb => by have h := (rd_some s (by omega) m hm).out w1;  exact h.mono fun e w2 h => ⟨h.1, below_tr hb h.2⟩)
    have HV : Hid (tV m = .agg (tC m.date m.time (m.z != 0) m.y m.mo m.d m.h m.mi m.s m.ns (off m) (late m))) := Lib.hid rfl
    rw [HV.out] at HD
    by_cases hts : t = s.data.toList
    · rw [if_pos hts] at HS
      rw [str_of hts] at HI2 HR2
      have hss := str_self s
      have hsm : shape m = (if m.date then 1 else 0) + (if m.time then 2 else 0) := shape_eq hrr
      rw [hsm] at HS HT hsp
      clear hE hl hm hz hr ht hrt hset hsz hrr HI HR hst hss2 HV HT hsm hts
      cases hmd : m.date with
      | true =>
        cases hmt : m.time with
        | true =>
          rw [hmd, hmt] at HD HS
          go_enter Tryd.func4, Tryd.ntmps4
          go_wp2_with (first | (go_at_call 10; with_reducible refine (HAw.out _ (by assumption)).mono ?_; rintro e w5 ⟨rfl, hb5⟩) | (go_at_call 13; with_reducible refine (HI2.out _ (by assumption)).mono ?_; rintro e w5 ⟨rfl, hb5⟩) | (go_at_call 14; with_reducible refine (HR2.out _ (by assumption)).mono ?_; rintro e w5 ⟨rfl, hb5⟩) | (go_at_call 15; with_reducible refine (HD.out _ (by assumption)).mono ?_; rintro e w5 ⟨rfl, hb5⟩; have x5 : Blk (w5.alloc (.cells (tC true true (m.z != 0) m.y m.mo m.d m.h m.mi m.s m.ns (off m) (late m)) 30)) w5.heap.size 30 (tC true true (m.z != 0) m.y m.mo m.d m.h m.mi m.s m.ns (off m) (late m)) := Blk.new _ _ _; have b5 := below_al hb5 (.cells (tC true true (m.z != 0) m.y m.mo m.d m.h m.mi m.s m.ns (off m) (late m)) 30); have c0 := x5.at_ 0; have c1 := x5.at_ 1) | (go_at_call 16; with_reducible refine (HS.out _ (by assumption)).mono ?_; rintro e w5 ⟨rfl, hb5⟩) | (go_at_call 16; with_reducible refine (HT.out _ (by assumption)).mono ?_; rintro e w5 ⟨rfl, hb5⟩))
          go_ret
          exact ⟨rfl, by assumption⟩
        | false =>
          rw [hmd, hmt] at HD HS
          go_enter Tryd.func4, Tryd.ntmps4
          go_wp2_with (first | (go_at_call 10; with_reducible refine (HAw.out _ (by assumption)).mono ?_; rintro e w5 ⟨rfl, hb5⟩) | (go_at_call 13; with_reducible refine (HI2.out _ (by assumption)).mono ?_; rintro e w5 ⟨rfl, hb5⟩) | (go_at_call 14; with_reducible refine (HR2.out _ (by assumption)).mono ?_; rintro e w5 ⟨rfl, hb5⟩) | (go_at_call 15; with_reducible refine (HD.out _ (by assumption)).mono ?_; rintro e w5 ⟨rfl, hb5⟩; have x5 : Blk (w5.alloc (.cells (tC true false (m.z != 0) m.y m.mo m.d m.h m.mi m.s m.ns (off m) (late m)) 30)) w5.heap.size 30 (tC true false (m.z != 0) m.y m.mo m.d m.h m.mi m.s m.ns (off m) (late m)) := Blk.new _ _ _; have b5 := below_al hb5 (.cells (tC true false (m.z != 0) m.y m.mo m.d m.h m.mi m.s m.ns (off m) (late m)) 30); have c0 := x5.at_ 0; have c1 := x5.at_ 1) | (go_at_call 16; with_reducible refine (HS.out _ (by assumption)).mono ?_; rintro e w5 ⟨rfl, hb5⟩) | (go_at_call 16; with_reducible refine (HT.out _ (by assumption)).mono ?_; rintro e w5 ⟨rfl, hb5⟩))
          go_ret
          exact ⟨rfl, by assumption⟩
      | false =>
        cases hmt : m.time with
        | true =>
          rw [hmd, hmt] at HD HS
          go_enter Tryd.func4, Tryd.ntmps4
          go_wp2_with (first | (go_at_call 10; with_reducible refine (HAw.out _ (by assumption)).mono ?_; rintro e w5 ⟨rfl, hb5⟩) | (go_at_call 13; with_reducible refine (HI2.out _ (by assumption)).mono ?_; rintro e w5 ⟨rfl, hb5⟩) | (go_at_call 14; with_reducible refine (HR2.out _ (by assumption)).mono ?_; rintro e w5 ⟨rfl, hb5⟩) | (go_at_call 15; with_reducible refine (HD.out _ (by assumption)).mono ?_; rintro e w5 ⟨rfl, hb5⟩; have x5 : Blk (w5.alloc (.cells (tC false true (m.z != 0) m.y m.mo m.d m.h m.mi m.s m.ns (off m) (late m)) 30)) w5.heap.size 30 (tC false true (m.z != 0) m.y m.mo m.d m.h m.mi m.s m.ns (off m) (late m)) := Blk.new _ _ _; have b5 := below_al hb5 (.cells (tC false true (m.z != 0) m.y m.mo m.d m.h m.mi m.s m.ns (off m) (late m)) 30); have c0 := x5.at_ 0; have c1 := x5.at_ 1) | (go_at_call 16; with_reducible refine (HS.out _ (by assumption)).mono ?_; rintro e w5 ⟨rfl, hb5⟩) | (go_at_call 16; with_reducible refine (HT.out _ (by assumption)).mono ?_; rintro e w5 ⟨rfl, hb5⟩))
          go_ret
          exact ⟨rfl, by assumption⟩
        | false =>
          rw [hmd, hmt] at hsp
          exact absurd hsp (by decide)
    · rw [if_neg hts] at HS
      have hne := str_ne (str_nof hts)
      generalize (⟨t.toArray⟩ : ByteArray) = TX at *
      have hss := str_self TX
      have hsp2 : (0 : Int) < (shape m : Int) := by omega
      generalize (shape m : Int) = SM at *
      clear hE hl hm hz hr ht hrt hset hsz hrr HI HR hst hss2 HV hts hsp
      go_enter Tryd.func4, Tryd.ntmps4
      go_wp2_with (first | (go_at_call 10; with_reducible refine (HAw.out _ (by assumption)).mono ?_; rintro e w5 ⟨rfl, hb5⟩) | (go_at_call 13; with_reducible refine (HI2.out _ (by assumption)).mono ?_; rintro e w5 ⟨rfl, hb5⟩) | (go_at_call 14; with_reducible refine (HR2.out _ (by assumption)).mono ?_; rintro e w5 ⟨rfl, hb5⟩) | (go_at_call 15; with_reducible refine (HD.out _ (by assumption)).mono ?_; rintro e w5 ⟨rfl, hb5⟩; have x5 : Blk (w5.alloc (.cells (tC m.date m.time (m.z != 0) m.y m.mo m.d m.h m.mi m.s m.ns (off m) (late m)) 30)) w5.heap.size 30 (tC m.date m.time (m.z != 0) m.y m.mo m.d m.h m.mi m.s m.ns (off m) (late m)) := Blk.new _ _ _; have b5 := below_al hb5 (.cells (tC m.date m.time (m.z != 0) m.y m.mo m.d m.h m.mi m.s m.ns (off m) (late m)) 30); have c0 := x5.at_ 0; have c1 := x5.at_ 1) | (go_at_call 16; with_reducible refine (HS.out _ (by assumption)).mono ?_; rintro e w5 ⟨rfl, hb5⟩) | (go_at_call 16; with_reducible refine (HT.out _ (by assumption)).mono ?_; rintro e w5 ⟨rfl, hb5⟩))
      go_ret
      exact ⟨rfl, by assumption⟩
end Go.Proofs.YtbficmdjblimfaaDoor
