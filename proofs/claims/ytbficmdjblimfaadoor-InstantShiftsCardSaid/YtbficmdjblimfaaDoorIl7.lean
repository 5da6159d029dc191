/-
  InstantShifts: true at every text and every zone.
-/
import Derived.Test.YtbficmdjblimfaaDoorIne
namespace Go.Proofs.YtbficmdjblimfaaDoor
open Go.RowKit
theorem zoneT_len (h m : Nat) : 5 = (Ins.zoneT h m).length := rfl
set_option maxRecDepth 100000 in
set_option maxHeartbeats 8000000 in
theorem instantShifts_any (s : ByteArray) (hh mm : Nat) (q1 : hh ≤ 255) (q2 : mm ≤ 255) (w : World) (hE : EnvI w) :
    Calls Tryd.prog 7 #[.string s, .int .u8 (hh : Int), .int .u8 (mm : Int)] w fun e w' => e = .returned (.bool true) ∧ Below w.heap.size w w' := by
  have HAw : Hid (∀ w1, Below w.heap.size w w1 → Calls Tryd.prog 10 #[] w1 fun e w2 => e = .returned (.bool true) ∧ Below w.heap.size w w2) := Lib.hid (fun w1 hb => (awake_any w1 (hE.below hb)).mono fun e w2 h => ⟨h.1, below_tr hb h.2⟩)
  have hB0 : Below w.heap.size w w := Below.refl _ _
  by_cases hs : 40 < s.size
  · clear hE
    go_enter Tryd.func7, Tryd.ntmps7
    go_wp2_with (first | (go_at_call 10; with_reducible refine (HAw.out _ (by assumption)).mono ?_; rintro e w5 ⟨rfl, hb5⟩))
    go_ret
    exact ⟨rfl, by assumption⟩
  obtain ⟨zh, hzh⟩ : ∃ z, z = hh % 24 := ⟨_, rfl⟩
  obtain ⟨zm, hzm⟩ : ∃ z, z = mm % 60 := ⟨_, rfl⟩
  have b1 : zh ≤ 23 := by omega
  have b2 : zm ≤ 59 := by omega
  have t1 : (hh : Int).tmod 24 = (zh : Int) := by rw [Int.tmod_eq_emod_of_nonneg (by omega)]; omega
  have t2 : (mm : Int).tmod 60 = (zm : Int) := by rw [Int.tmod_eq_emod_of_nonneg (by omega)]; omega
  have e1 : (hh : Int) % 24 = (zh : Int) := by omega
  have e2 : (mm : Int) % 60 = (zm : Int) := by omega
  clear hzh hzm
  have HL : (Ins.zoneT zh zm).map (fun b : UInt8 => (b.toNat : Int)) = [48 + (zh : Int) / 10, 48 + (zh : Int) % 10, 58, 48 + (zm : Int) / 10, 48 + (zm : Int) % 10] := by
    unfold Ins.zoneT Ins.dg
    simp only [List.map_cons, List.map_nil]
    rw [u8_ofNat _ (by omega), u8_ofNat _ (by omega), u8_ofNat _ (by omega), u8_ofNat _ (by omega)]
    have e58 : (58 : UInt8).toNat = 58 := rfl
    rw [e58]
    have a1 : ((48 + zh / 10 % 10 : Nat) : Int) = 48 + (zh : Int) / 10 := by omega
    have a2 : ((48 + zh % 10 : Nat) : Int) = 48 + (zh : Int) % 10 := by omega
    have a3 : ((48 + zm / 10 % 10 : Nat) : Int) = 48 + (zm : Int) / 10 := by omega
    have a4 : ((48 + zm % 10 : Nat) : Int) = 48 + (zm : Int) % 10 := by omega
    rw [a1, a2, a3, a4]
    rfl
  have HLn : Hid (∀ w1 : World, ∀ j, j < (Ins.zoneT zh zm).length → (w1.alloc (.cells ([48 + (zh : Int) / 10, 48 + (zh : Int) % 10, 58, 48 + (zm : Int) / 10, 48 + (zm : Int) % 10].map (Value.int .u8 ·)).toArray 5)).cell? ⟨w1.heap.size, j, none⟩ = some (.int .u8 (byteAt (Ins.zoneT zh zm) j))) := Lib.hid (fun w1 => new_bytes w1 _ _ 5 HL)
  have z1 : (⟨(Ins.zoneT zh zm).toArray⟩ : ByteArray).size = 5 := rfl
  have z5 : (⟨(Ins.zoneT zh zm).toArray⟩ : ByteArray).size ≤ 5 := Nat.le_refl 5
  have HU0 : ∀ w1, Below w.heap.size w w1 → Calls Tryd.prog 11 #[.string (s ++ ⟨#[90]⟩)] w1 (RetR w1 (Ins.instant (s.data.toList ++ [90]))) := fun w1 hb => by
    have h := instant_any (s ++ ⟨#[90]⟩) w1 (by rw [ByteArray.size_append]; show s.size + 1 ≤ _; omega) (hE.below hb)
    rw [app_lst] at h
    exact h
  have HE0 : ∀ w1, Below w.heap.size w w1 → Calls Tryd.prog 11 #[.string (s ++ ⟨#[43]⟩ ++ ⟨(Ins.zoneT zh zm).toArray⟩)] w1 (RetR w1 (Ins.instant (s.data.toList ++ 43 :: Ins.zoneT zh zm))) := fun w1 hb => by
    have h := instant_any (s ++ ⟨#[43]⟩ ++ ⟨(Ins.zoneT zh zm).toArray⟩) w1 (by rw [ByteArray.size_append, ByteArray.size_append, z1]; show s.size + 1 + 5 ≤ _; omega) (hE.below hb)
    rw [app_lst, app_lst, List.append_assoc] at h
    exact h
  have HW0 : ∀ w1, Below w.heap.size w w1 → Calls Tryd.prog 11 #[.string (s ++ ⟨#[45]⟩ ++ ⟨(Ins.zoneT zh zm).toArray⟩)] w1 (RetR w1 (Ins.instant (s.data.toList ++ 45 :: Ins.zoneT zh zm))) := fun w1 hb => by
    have h := instant_any (s ++ ⟨#[45]⟩ ++ ⟨(Ins.zoneT zh zm).toArray⟩) w1 (by rw [ByteArray.size_append, ByteArray.size_append, z1]; show s.size + 1 + 5 ≤ _; omega) (hE.below hb)
    rw [app_lst, app_lst, List.append_assoc] at h
    exact h
  unfold RetR at HU0 HE0 HW0
  rcases Ins.shift_law s.data.toList zh zm b1 b2 with ⟨c, i1, i2, i3⟩ | ⟨k, j, k1, k2, i1, i2, i3⟩
  · have hc := instant_bad i1
    rw [i1] at HU0
    rw [i2] at HE0
    rw [i3] at HW0
    have hc0 : ((c : Int) == 0) = false := by rw [beq_eq_false_iff_ne]; omega
    have hcn : ((c : Int) != 0) = true := by unfold bne; rw [hc0]; rfl
    have hcc : ((c : Int) == (c : Int)) = true := beq_self_eq_true _
    have HU : Hid (∀ w1, Below w.heap.size w w1 → Calls Tryd.prog 11 #[.string (s ++ ⟨#[90]⟩)] w1 fun e w2 => e = .returned (.tuple #[.string ⟨#[]⟩, .int .i64 (c : Int)]) ∧ Below w.heap.size w w2) := Lib.hid (fun w1 hb => (HU0 w1 hb).mono fun e w2 h => ⟨h.1, below_tr hb h.2⟩)
    have HE : Hid (∀ w1, Below w.heap.size w w1 → Calls Tryd.prog 11 #[.string (s ++ ⟨#[43]⟩ ++ ⟨(Ins.zoneT zh zm).toArray⟩)] w1 fun e w2 => e = .returned (.tuple #[.string ⟨#[]⟩, .int .i64 (c : Int)]) ∧ Below w.heap.size w w2) := Lib.hid (fun w1 hb => (HE0 w1 hb).mono fun e w2 h => ⟨h.1, below_tr hb h.2⟩)
    have HW : Hid (∀ w1, Below w.heap.size w w1 → Calls Tryd.prog 11 #[.string (s ++ ⟨#[45]⟩ ++ ⟨(Ins.zoneT zh zm).toArray⟩)] w1 fun e w2 => e = .returned (.tuple #[.string ⟨#[]⟩, .int .i64 (c : Int)]) ∧ Below w.heap.size w w2) := Lib.hid (fun w1 hb => (HW0 w1 hb).mono fun e w2 h => ⟨h.1, below_tr hb h.2⟩)
    clear hE HU0 HE0 HW0 i1 i2 i3 hc z1 HL
    go_enter Tryd.func7, Tryd.ntmps7
    go_wp2_with (first | (go_at_call 10; with_reducible refine (HAw.out _ (by assumption)).mono ?_; rintro e w5 ⟨rfl, hb5⟩) | ((with_reducible refine wpList_cells_string rfl 41 9 (.tmp 51) rfl 5 Tryd.underlying41 (by kernel_rfl) (by kernel_rfl) w5.heap.size 5 5 (Ins.zoneT zh zm) (zoneT_len _ _) ?_ ?_ ?_); exact rfl; exact HLn.out w5; have b6 := below_al hb5 (.cells #[Value.int .u8 (48 + (zh : Int) / 10), Value.int .u8 (48 + (zh : Int) % 10), Value.int .u8 58, Value.int .u8 (48 + (zm : Int) / 10), Value.int .u8 (48 + (zm : Int) % 10)] 5); clear HLn; generalize (⟨(Ins.zoneT zh zm).toArray⟩ : ByteArray) = ZN at *) | (go_at_call 11; with_reducible refine (HU.out _ (by assumption)).mono ?_; rintro e w5 ⟨rfl, hb5⟩) | (go_at_call 11; with_reducible refine (HE.out _ (by assumption)).mono ?_; rintro e w5 ⟨rfl, hb5⟩) | (go_at_call 11; with_reducible refine (HW.out _ (by assumption)).mono ?_; rintro e w5 ⟨rfl, hb5⟩))
    go_ret
    exact ⟨rfl, by assumption⟩
  · rw [i1] at HU0
    rw [i2] at HE0
    rw [i3] at HW0
    have hof := Ins.ofSeconds_at k j k1 k2
    obtain ⟨k3, j3, _, _, g1, g2, _, h6⟩ := secs_of hof
    have hsz := ofs_len hof
    have hj3 : j3 = j := by omega
    rw [hj3] at h6
    have hep : (k : Int) - Ins.epoch = (k : Int) - 62167219200 := rfl
    rw [hep] at HE0 HW0 h6
    unfold Ins.top at k1
    have hsh : ((3600 * zh + 60 * zm : Nat) : Int) = 3600 * (zh : Int) + 60 * (zm : Int) := by omega
    rw [hsh] at HE0 HW0
    obtain ⟨NN, hNN⟩ : ∃ N, N = (k : Int) - 62167219200 := ⟨_, rfl⟩
    rw [← hNN] at HE0 HW0 h6
    have n1 : -62167219200 ≤ NN := by omega
    have n2 : NN < 253402300800 := by omega
    have o1 : 0 ≤ 3600 * (zh : Int) + 60 * (zm : Int) := by omega
    have o2 : 3600 * (zh : Int) + 60 * (zm : Int) ≤ 86340 := by omega
    have HS : Hid (∀ w1, Below w.heap.size w w1 → Calls Tryd.prog 17 #[.string ⟨((Ins.ofS k j).text ++ [90]).toArray⟩] w1 fun e w2 => e = .returned (.tuple #[.int .i64 NN, .int .i64 (j : Int), .int .i64 0]) ∧ Below w.heap.size w w2) := Lib.hid (fun w1 hb => by have h := iseconds_any ⟨((Ins.ofS k j).text ++ [90]).toArray⟩ w1 (by rw [bsz]; omega) (hE.below hb); have h7 : secsOf (⟨((Ins.ofS k j).text ++ [90]).toArray⟩ : ByteArray).data.toList = some (NN, j) := h6; rw [h7] at h;  exact h.mono fun e w2 h => ⟨h.1, below_tr hb h.2⟩)
    have HX : Hid (∀ w1, Below w.heap.size w w1 → Calls Tryd.prog 19 #[.int .i64 (NN - (3600 * (zh : Int) + 60 * (zm : Int))), .int .i64 (j : Int)] w1 fun e w2 => e = .returned (.tuple #[.string (resV (Ins.ofSeconds (NN - (3600 * (zh : Int) + 60 * (zm : Int))) (j : Int))).1, .int .i64 (resV (Ins.ofSeconds (NN - (3600 * (zh : Int) + 60 * (zm : Int))) (j : Int))).2]) ∧ Below w.heap.size w w2) := Lib.hid (fun w1 hb => (ofSeconds_any (NN - (3600 * (zh : Int) + 60 * (zm : Int))) (j : Int) w1 (by omega) (by omega) (by omega) (by omega) (hE.below hb)).mono fun e w2 h => ⟨h.1, below_tr hb h.2⟩)
    have HY : Hid (∀ w1, Below w.heap.size w w1 → Calls Tryd.prog 19 #[.int .i64 (NN + (3600 * (zh : Int) + 60 * (zm : Int))), .int .i64 (j : Int)] w1 fun e w2 => e = .returned (.tuple #[.string (resV (Ins.ofSeconds (NN + (3600 * (zh : Int) + 60 * (zm : Int))) (j : Int))).1, .int .i64 (resV (Ins.ofSeconds (NN + (3600 * (zh : Int) + 60 * (zm : Int))) (j : Int))).2]) ∧ Below w.heap.size w w2) := Lib.hid (fun w1 hb => (ofSeconds_any (NN + (3600 * (zh : Int) + 60 * (zm : Int))) (j : Int) w1 (by omega) (by omega) (by omega) (by omega) (hE.below hb)).mono fun e w2 h => ⟨h.1, below_tr hb h.2⟩)
    have HU : Hid (∀ w1, Below w.heap.size w w1 → Calls Tryd.prog 11 #[.string (s ++ ⟨#[90]⟩)] w1 fun e w2 => e = .returned (.tuple #[.string ⟨((Ins.ofS k j).text ++ [90]).toArray⟩, .int .i64 0]) ∧ Below w.heap.size w w2) := Lib.hid (fun w1 hb => (HU0 w1 hb).mono fun e w2 h => ⟨h.1, below_tr hb h.2⟩)
    have HE : Hid (∀ w1, Below w.heap.size w w1 → Calls Tryd.prog 11 #[.string (s ++ ⟨#[43]⟩ ++ ⟨(Ins.zoneT zh zm).toArray⟩)] w1 fun e w2 => e = .returned (.tuple #[.string (resV (Ins.ofSeconds (NN - (3600 * (zh : Int) + 60 * (zm : Int))) (j : Int))).1, .int .i64 (resV (Ins.ofSeconds (NN - (3600 * (zh : Int) + 60 * (zm : Int))) (j : Int))).2]) ∧ Below w.heap.size w w2) := Lib.hid (fun w1 hb => (HE0 w1 hb).mono fun e w2 h => ⟨h.1, below_tr hb h.2⟩)
    have HW : Hid (∀ w1, Below w.heap.size w w1 → Calls Tryd.prog 11 #[.string (s ++ ⟨#[45]⟩ ++ ⟨(Ins.zoneT zh zm).toArray⟩)] w1 fun e w2 => e = .returned (.tuple #[.string (resV (Ins.ofSeconds (NN + (3600 * (zh : Int) + 60 * (zm : Int))) (j : Int))).1, .int .i64 (resV (Ins.ofSeconds (NN + (3600 * (zh : Int) + 60 * (zm : Int))) (j : Int))).2]) ∧ Below w.heap.size w w2) := Lib.hid (fun w1 hb => (HW0 w1 hb).mono fun e w2 h => ⟨h.1, below_tr hb h.2⟩)
    generalize (resV (Ins.ofSeconds (NN - (3600 * (zh : Int) + 60 * (zm : Int))) (j : Int))).1 = E1 at *
    generalize (resV (Ins.ofSeconds (NN - (3600 * (zh : Int) + 60 * (zm : Int))) (j : Int))).2 = E2 at *
    generalize (resV (Ins.ofSeconds (NN + (3600 * (zh : Int) + 60 * (zm : Int))) (j : Int))).1 = F1 at *
    generalize (resV (Ins.ofSeconds (NN + (3600 * (zh : Int) + 60 * (zm : Int))) (j : Int))).2 = F2 at *
    generalize (⟨((Ins.ofS k j).text ++ [90]).toArray⟩ : ByteArray) = UX at *
    have hs1 := str_self E1
    have hs2 := str_self F1
    have he1 : (E2 == E2) = true := beq_self_eq_true _
    have he2 : (F2 == F2) = true := beq_self_eq_true _
    clear hE HU0 HE0 HW0 i1 i2 i3 hof g1 g2 hj3 h6 hep hsh hNN z1 HL hsz
    go_enter Tryd.func7, Tryd.ntmps7
    go_wp2_with (first | (go_at_call 10; with_reducible refine (HAw.out _ (by assumption)).mono ?_; rintro e w5 ⟨rfl, hb5⟩) | ((with_reducible refine wpList_cells_string rfl 41 9 (.tmp 51) rfl 5 Tryd.underlying41 (by kernel_rfl) (by kernel_rfl) w5.heap.size 5 5 (Ins.zoneT zh zm) (zoneT_len _ _) ?_ ?_ ?_); exact rfl; exact HLn.out w5; have b6 := below_al hb5 (.cells #[Value.int .u8 (48 + (zh : Int) / 10), Value.int .u8 (48 + (zh : Int) % 10), Value.int .u8 58, Value.int .u8 (48 + (zm : Int) / 10), Value.int .u8 (48 + (zm : Int) % 10)] 5); clear HLn; generalize (⟨(Ins.zoneT zh zm).toArray⟩ : ByteArray) = ZN at *) | (go_at_call 11; with_reducible refine (HU.out _ (by assumption)).mono ?_; rintro e w5 ⟨rfl, hb5⟩) | (go_at_call 11; with_reducible refine (HE.out _ (by assumption)).mono ?_; rintro e w5 ⟨rfl, hb5⟩) | (go_at_call 11; with_reducible refine (HW.out _ (by assumption)).mono ?_; rintro e w5 ⟨rfl, hb5⟩) | (go_at_call 17; with_reducible refine (HS.out _ (by assumption)).mono ?_; rintro e w5 ⟨rfl, hb5⟩) | (go_at_call 19; with_reducible refine (HX.out _ (by assumption)).mono ?_; rintro e w5 ⟨rfl, hb5⟩) | (go_at_call 19; with_reducible refine (HY.out _ (by assumption)).mono ?_; rintro e w5 ⟨rfl, hb5⟩))
    go_ret
    exact ⟨rfl, by assumption⟩
theorem instantShifts_int (s : ByteArray) (a b : Int) (ha : 0 ≤ a ∧ a ≤ 255) (hb : 0 ≤ b ∧ b ≤ 255) (w : World) (hE : EnvI w) :
    Calls Tryd.prog 7 #[.string s, .int .u8 a, .int .u8 b] w fun e w' => e = .returned (.bool true) ∧ Below w.heap.size w w' := by
  have h := instantShifts_any s a.toNat b.toNat (by omega) (by omega) w hE
  rw [show ((a.toNat : Nat) : Int) = a by omega, show ((b.toNat : Nat) : Int) = b by omega] at h
  exact h
end Go.Proofs.YtbficmdjblimfaaDoor
