/-
  The reference's ReadInstant and Canon by their contracts.
-/
import Derived.Test.YtbficmdjblimfaaDoorRin2
namespace Go.Proofs.YtbficmdjblimfaaDoor
open Go.RowKit
theorem tC9 (dt tm zn : Bool) (y mo d h mi sc ns off : Int) (lt : Bool) : (tC dt tm zn y mo d h mi sc ns off lt)[9]? = some (.int .i64 ns) := rfl
set_option maxRecDepth 100000 in
set_option maxHeartbeats 8000000 in
theorem rinstant_any (s : ByteArray) (w : World) (hs : s.size ≤ 1000000) :
    Calls Tryd.prog 12 #[.string s] w (RetR w (Ins.instant s.data.toList)) := by
  obtain ⟨R, hR⟩ : ∃ R, R = Ins.instant s.data.toList := ⟨_, rfl⟩
  rw [← hR]
  unfold Ins.instant at hR
  cases hm : Ins.read s.data.toList with
  | none =>
    rw [hm] at hR
    replace hR : R = .bad 3 := hR
    subst hR
    have HR := rd_none s hs hm
    clear hm
    go_enter Tryd.func12, Tryd.ntmps12
    go_wp2_with (go_at_call 15; with_reducible refine (HR.out _).mono ?_; rintro e w5 ⟨⟨d0, d1, d2, d3, d4, d5, d6, d7, d8, d9, d10, d11, rfl⟩, hb5⟩)
    go_ret2
    exact ⟨rfl, below_al hb5 _⟩
  | some m =>
    have hrd := Ins.read_rd hm
    rw [hm] at hR
    replace hR : R = if m.z = 0 then .bad 3 else if !m.ranges then .bad 13 else Ins.ofSeconds (m.secs - Ins.epoch) m.ns := hR
    have HR := rd_some s hs m hm
    clear hm
    have HI : Hid (∀ w1, Calls Tryd.prog 27 #[tV m] w1 fun e w' => e = .returned (.bool m.ranges) ∧ Below w1.heap.size w1 w') := Lib.hid (fun w1 => inrange_any m w1 hrd.y hrd.mo hrd.d)
    by_cases hz : m.z = 0
    · rw [if_pos hz] at hR
      subst hR
      have hzb : (m.z != 0) = false := by rw [hz]; decide
      unfold tV at HR
      rw [hzb] at HR
      clear hrd hz hzb HI
      go_enter Tryd.func12, Tryd.ntmps12
      go_wp2_with (go_at_call 15; with_reducible refine (HR.out _).mono ?_; rintro e w5 ⟨rfl, hb5⟩)
      go_ret2
      exact ⟨rfl, below_al hb5 _⟩
    · rw [if_neg hz] at hR
      have hzb : (m.z != 0) = true := by rw [bne_iff_ne]; exact hz
      cases hb : m.ranges with
      | false =>
        rw [hb] at hR HI
        replace hR : R = .bad 13 := hR
        subst hR
        unfold tV at HR HI
        rw [hzb] at HR HI
        clear hrd hz hzb hb
        go_enter Tryd.func12, Tryd.ntmps12
        go_wp2_with (first | (go_at_call 15; with_reducible refine (HR.out _).mono ?_; rintro e w5 ⟨rfl, hb5⟩) | (go_at_call 27; with_reducible refine (HI.out _).mono ?_; rintro e w6 ⟨rfl, hb6⟩))
        go_ret2
        exact ⟨rfl, below_al2 hb5 _ hb6⟩
      | true =>
        rw [hb] at hR HI
        replace hR : R = Ins.ofSeconds (m.secs - Ins.epoch) m.ns := hR
        have hbd := Ins.ranges_bd hb
        have hdt : m.date = true := by
          rcases hrd.z with h | h
          · exact absurd h.1 hz
          · exact h.2.1
        have HS : Hid (∀ w1, Calls Tryd.prog 20 #[tV m] w1 fun e w' => e = .returned (.int .i64 (m.secs - Ins.epoch)) ∧ Below w1.heap.size w1 w') := Lib.hid (fun w1 => rseconds_any m w1 hrd.h hrd.mi hrd.s hrd.zh hrd.zm (hrd.z.imp id And.left) (hbd.1 hdt))
        have hns := hrd.ns
        obtain ⟨N, hN⟩ : ∃ N, N = m.secs - Ins.epoch := ⟨_, rfl⟩
        rw [← hN] at hR HS
        unfold Ins.ofSeconds at hR
        rw [if_neg (by omega)] at hR
        unfold Ins.epoch Ins.top at hR
        unfold tV at HR HI HS
        rw [hzb] at HR HI HS
        clear hrd hz hzb hb hbd hN hdt
        by_cases hlo : N < -62167219200
        · rw [if_pos (.inl hlo)] at hR
          subst hR
          go_enter Tryd.func12, Tryd.ntmps12
          go_wp2_with (first | (go_at_call 15; with_reducible refine (HR.out _).mono ?_; rintro e w5 ⟨rfl, hb5⟩) | (go_at_call 27; with_reducible refine (HI.out _).mono ?_; rintro e w6 ⟨rfl, hb6⟩; have x6 := (Blk.new w5 _ _).below hb6 (Blk.new w5 _ _).lt; have hb7 := below_al2 hb5 _ hb6) | ((with_reducible refine wpList_load_T rfl _ rfl w5.heap.size _ rfl ?_ x6 ?_); exact rfl) | (go_at_call 20; with_reducible refine (HS.out _).mono ?_; rintro e w8 ⟨rfl, hb8⟩))
          go_ret2
          exact ⟨rfl, below_tr hb7 hb8⟩
        · by_cases hhi : 253402300799 < N
          · rw [if_pos (.inr (by omega))] at hR
            subst hR
            go_enter Tryd.func12, Tryd.ntmps12
            go_wp2_with (first | (go_at_call 15; with_reducible refine (HR.out _).mono ?_; rintro e w5 ⟨rfl, hb5⟩) | (go_at_call 27; with_reducible refine (HI.out _).mono ?_; rintro e w6 ⟨rfl, hb6⟩; have x6 := (Blk.new w5 _ _).below hb6 (Blk.new w5 _ _).lt; have hb7 := below_al2 hb5 _ hb6) | ((with_reducible refine wpList_load_T rfl _ rfl w5.heap.size _ rfl ?_ x6 ?_); exact rfl) | (go_at_call 20; with_reducible refine (HS.out _).mono ?_; rintro e w8 ⟨rfl, hb8⟩))
            go_ret2
            exact ⟨rfl, below_tr hb7 hb8⟩
          · rw [if_neg (by omega)] at hR
            obtain ⟨k, hk⟩ : ∃ k : Nat, k = (N + 62167219200).toNat := ⟨_, rfl⟩
            rw [← hk, Int.toNat_natCast] at hR
            have hkt : k < Ins.top := by unfold Ins.top; omega
            have hNk : N = (k : Int) - 62167219200 := by omega
            have hwf := (Ins.ofS_wf k m.ns hkt hns).1
            have HO : Hid (∀ w1, Calls Tryd.prog 22 #[.int .i64 N, .int .i64 (m.ns : Int)] w1 fun e w' => e = .returned (tV (Ins.ofS k m.ns)) ∧ Below w1.heap.size w1 w') := Lib.hid (fun w1 => by rw [hNk]; exact rof_any k m.ns hkt hns w1)
            have HW : Hid (∀ w1, Calls Tryd.prog 21 #[tV (Ins.ofS k m.ns)] w1 fun e w' => e = .returned (.string ⟨((Ins.ofS k m.ns).text ++ [90]).toArray⟩) ∧ Below w1.heap.size w1 w') := Lib.hid (fun w1 => show_any (Ins.ofS k m.ns) w1 hwf.y hwf.mo hwf.d hwf.h hwf.mi hwf.s hwf.ns (.inl rfl) (fun h => by cases h))
            subst hR
            have HRV : Hid (resV (.ok ((Ins.ofS k m.ns).text ++ [90])) = (⟨((Ins.ofS k m.ns).text ++ [90]).toArray⟩, 0)) := Lib.hid rfl
            unfold RetR
            rw [HRV.out]
            generalize (⟨((Ins.ofS k m.ns).text ++ [90]).toArray⟩ : ByteArray) = TX at *
            generalize tV (Ins.ofS k m.ns) = OV at *
            clear HRV hwf hkt hk hNk
            go_enter Tryd.func12, Tryd.ntmps12
            go_wp2_with (first | (go_at_call 15; with_reducible refine (HR.out _).mono ?_; rintro e w5 ⟨rfl, hb5⟩) | (go_at_call 27; with_reducible refine (HI.out _).mono ?_; rintro e w6 ⟨rfl, hb6⟩; have x6 := (Blk.new w5 _ _).below hb6 (Blk.new w5 _ _).lt; have hb7 := below_al2 hb5 _ hb6) | ((with_reducible refine wpList_load_T rfl _ rfl w5.heap.size _ rfl ?_ x6 ?_); exact rfl) | (go_at_call 20; with_reducible refine (HS.out _).mono ?_; rintro e w8 ⟨rfl, hb8⟩; have x8 := x6.below hb8 x6.lt; have c8 : w8.cell? ⟨w5.heap.size, 9, none⟩ = some (.int .i64 (m.ns : Int)) := (x8.at_ 9).trans (tC9 ..)) | (go_at_call 22; with_reducible refine (HO.out _).mono ?_; rintro e w9 ⟨rfl, hb9⟩) | (go_at_call 21; with_reducible refine (HW.out _).mono ?_; rintro e w10 ⟨rfl, hb10⟩))
            go_ret2
            exact ⟨rfl, below_tr (below_tr (below_tr hb7 hb8) hb9) hb10⟩
end Go.Proofs.YtbficmdjblimfaaDoor
