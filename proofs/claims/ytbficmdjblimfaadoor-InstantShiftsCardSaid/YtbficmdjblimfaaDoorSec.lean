/-
  instant's seconds and ranges by their contracts.
-/
import Derived.Test.YtbficmdjblimfaaDoorTxt
import Derived.Test.YtbficmdjblimfaaDoorCivC
namespace Go.Proofs.YtbficmdjblimfaaDoor
open Go.RowKit
theorem byte_ne {c : UInt8} (n : UInt8) (h : c ≠ n) : ((c.toNat : Int) == (n.toNat : Int)) = false :=
  beq_eq_false_iff_ne.2 (fun e => h (UInt8.toNat_inj.1 (by omega)))
set_option maxRecDepth 100000 in
set_option maxHeartbeats 8000000 in
theorem seconds_any (m : Ins.M) (w : World) (h4 : m.h ≤ 99) (h5 : m.mi ≤ 99) (h6 : m.s ≤ 99) (h7 : m.zh ≤ 99) (h8 : m.zm ≤ 99) (hd : Ins.dateOk m.y m.mo m.d) :
    Calls Tryd.prog 26 #[momV m] w fun e w' => e = .returned (.int .i64 (m.secs - Ins.epoch)) ∧ Below w.heap.size w w' := by
  have hlt := Ins.days_lt _ _ _ hd
  have hml := (Ins.mlen_bd m.y m.mo).2
  have HD := Lib.hid (fun w1 => days_any m.y m.mo m.d (by have := hd.1; omega) (by have := hd.2.2.1; omega) (by have := hd.2.2.2.2; omega) w1)
  have hdr : dayR m.y m.mo m.d = ((Ins.days m.y m.mo m.d : Int) - 719528, 0) := if_pos hd
  rw [hdr] at HD
  obtain ⟨date, time, y, mo, d, hh, mi, s, ns, z, zh, zm⟩ := m
  simp only at h4 h5 h6 h7 h8 hlt HD
  unfold Ins.M.secs momV shape Ins.epoch
  simp only
  clear hd hdr hml
  generalize Ins.days y mo d = D at *
  generalize ((if date then 1 else 0) + (if time then 2 else 0) : Nat) = sh
  by_cases hz : z = 43
  · rw [if_pos hz]
    subst hz
    have HR : Hid ((D * 86400 + hh * 3600 + mi * 60 + s : Nat) + -((zh * 3600 + zm * 60 : Nat) : Int) - 62167219200 = ((D : Int) - 719528) * 86400 + hh * 3600 + mi * 60 + s - (zh * 3600 + zm * 60)) := Lib.hid (by omega)
    rw [HR.out]
    go_enter Tryd.func26, Tryd.ntmps26
    go_wp2_with (go_at_call 39; with_reducible refine (HD.out _).mono ?_; rintro e w3 ⟨rfl, hb3⟩; obtain ⟨c0, c1, c2, c3, c4, c5, c6, c7, c8, c9, c10, hb4⟩ := momKeep (Blk.new _ _ _) hb3)
    go_ret
    exact ⟨rfl, (below_alloc _).trans (hb4.mono (below_alloc _).size)⟩
  · rw [if_neg hz]
    have hz2 : ((z.toNat : Int) == 43) = false := byte_ne 43 hz
    have HR : Hid ((D * 86400 + hh * 3600 + mi * 60 + s : Nat) + ((zh * 3600 + zm * 60 : Nat) : Int) - 62167219200 = ((D : Int) - 719528) * 86400 + hh * 3600 + mi * 60 + s + (zh * 3600 + zm * 60)) := Lib.hid (by omega)
    rw [HR.out]
    go_enter Tryd.func26, Tryd.ntmps26
    go_wp2_with (go_at_call 39; with_reducible refine (HD.out _).mono ?_; rintro e w3 ⟨rfl, hb3⟩; obtain ⟨c0, c1, c2, c3, c4, c5, c6, c7, c8, c9, c10, hb4⟩ := momKeep (Blk.new _ _ _) hb3)
    go_ret
    exact ⟨rfl, (below_alloc _).trans (hb4.mono (below_alloc _).size)⟩
end Go.Proofs.YtbficmdjblimfaaDoor
