/-
  armor.Base64 by its contract.
-/
import Derived.Test.YtjhmfcmcgibgmaaDoorArmF
import Derived.Test.YtjhmfcmcgibgmaaDoorArm2
namespace Go.Proofs.YtjhmfcmcgibgmaaDoor
open Go.RowKit
set_option maxRecDepth 100000 in
set_option maxHeartbeats 4000000 in
theorem b64_any (s : ByteArray) (w : World) (hs : s.size ≤ 1048576) :
    Calls Tryd.prog 17 #[.string s] w fun e w' => e = .returned (.string ⟨(Arm.b64 s.data.toList).toArray⟩) ∧ Below w.heap.size w w' := by
  go_enter Tryd.func17, Tryd.ntmps17
  go_wp2_with fail
  go_loopw [4, 3] (fun x v wr => ∃ (i : Nat) (out : List UInt8), i ≤ s.size + 2 ∧ x = .int .i64 i ∧ out.length ≤ 2 * i ∧ Hid (Arm.b64 s.data.toList = out ++ Arm.b64 (s.data.toList.drop i)) ∧ OwnB wr w.heap.size 5 v out ∧ Below w.heap.size w wr) (fun x _ _ => s.size + 3 - (intOf x).toNat)
  case atStart => exact ⟨0, [], by omega, rfl, Nat.zero_le _, Lib.hid rfl, OwnB.nil _ _ _, Below.refl _ _⟩
  case round =>
    obtain ⟨i, out, hi, rfl, hol, hgo, hown, hb⟩ := hrel
    by_cases hlt : i < s.size
    · have hgo2 := hgo.out
      rw [Arm.b64_quad _ _ (by rw [size_toList]; exact hlt)] at hgo2
      have HG := Lib.hid hgo2
      clear hgo2 hgo
      obtain ⟨wo, rfl⟩ : ∃ wo : World, wo = wr := ⟨_, rfl⟩
      by_cases h3 : i + 3 ≤ s.size
      · go_wp2_with fail
        go_loop [20, 6] (fun x y => ∃ m : Nat, m ≤ 3 ∧ x = .int .i64 m ∧ y = .int .i64 (Arm.grp s.data.toList i m : Nat)) (fun x _ => 3 - (intOf x).toNat)
        case atStart => exact ⟨0, by omega, rfl, rfl⟩
        case round =>
          obtain ⟨m, hm, rfl, rfl⟩ := hrel
          have hg := Arm.grp_lt s.data.toList i m
          have hgn : Arm.grp s.data.toList i (m + 1) = Arm.grp s.data.toList i m * 256 + Arm.byteN s.data.toList (i + m) := rfl
          have hbd := byteAt_bd s.data.toList (i + m)
          by_cases hm3 : m < 3
          · have hgb : Arm.grp s.data.toList i m < 65536 := Nat.lt_of_lt_of_le hg (Nat.le_trans (Nat.pow_le_pow_right (by decide : 0 < 256) (by omega : m ≤ 2)) (by decide))
            clear hg
            by_cases hin : i + m < s.size
            · have hba : byteAt s.data.toList (i + m) = (Arm.byteN s.data.toList (i + m) : Int) := rfl
              have HB := Lib.hid hba
              have HGN := Lib.hid hgn
              clear hba hgn
              generalize Arm.grp s.data.toList i m = gm at *
              go_wp2_with ((with_reducible refine wpList_index_str rfl 9 _ _ rfl Tryd.underlying9 s .i64 (i + m : Nat) ?_ ?_ ?_ ?_ ?_); exact rfl; (first | exact rfl | (show Value.int _ _ = Value.int _ _; congr 1)); omega; omega; simp only [Int.toNat_natCast])
              go_round
              case rel => exact ⟨m + 1, by omega, by go_num, by rw [HGN.out]; exact congrArg (Value.int .i64) (by rw [HB.out]; omega)⟩
              case measure => simp [intOf]; omega
            · exact absurd hin (by omega)
          · have hm33 : m = 3 := by omega
            subst hm33
            have hg3 : Arm.grp s.data.toList i 3 < 16777216 := hg
            clear hg hgn hbd hm3 hm
            obtain ⟨g3, hg3e⟩ : ∃ g3, g3 = Arm.grp s.data.toList i 3 := ⟨_, rfl⟩
            rw [← hg3e] at hg3 ⊢
            have HE := Lib.hid hg3e
            clear hg3e
            go_wp2_with fail
            go_loopw [37, 3] (fun x v wr => ∃ q : Nat, q ≤ 4 ∧ x = .int .i64 q ∧ OwnB wr w.heap.size 5 v (out ++ (Arm.quad s.data.toList i).take q) ∧ Below w.heap.size w wr) (fun x _ _ => 4 - (intOf x).toNat)
            case atStart => exact ⟨0, by omega, rfl, by rw [List.take_zero, List.append_nil]; exact hown, hb⟩
            case round =>
              clear hown hb
              obtain ⟨q, hq, rfl, hown, hb⟩ := hrel
              by_cases hq4 : q < 4
              · have hstep := Arm.quad_take s.data.toList i q hq4
                have hlen3 : (out ++ (Arm.quad s.data.toList i).take q).length < 140737488355328 := by rw [List.length_append, List.length_take, Arm.quad_len]; omega
                by_cases hiq : i + q ≤ s.size
                · have hqc : Arm.quadC s.data.toList i q = Arm.sixC (g3 / 2 ^ (18 - 6 * q) % 64) := by
                    rw [HE.out]
                    exact if_pos (by rw [size_toList]; exact hiq)
                  rw [hqc] at hstep
                  have hdb : g3 / 2 ^ (18 - 6 * q) < 16777216 := Nat.lt_of_le_of_lt (Nat.div_le_self _ _) hg3
                  have e1 : ((g3 / 2 ^ (18 - 6 * q) : Nat) : Int) = (g3 : Int) / 2 ^ (18 - 6 * q) := by simp
                  generalize g3 / 2 ^ (18 - 6 * q) = D at hdb e1 hstep
                  have hdi : 0 ≤ (g3 : Int) / 2 ^ (18 - 6 * q) ∧ (g3 : Int) / 2 ^ (18 - 6 * q) < 16777216 := by rw [← e1]; omega
                  have hand : bits .and .i64 ((g3 : Int) / 2 ^ (18 - 6 * q)) 63 = ((D % 64 : Nat) : Int) := by
                    rw [← e1]
                    exact bits_mask .i64 62 (by decide) (fun x h0 h1 => by rw [IntKind.wrap_i64]; omega) 6 (by decide) (D : Int) (by omega) (by omega)
                  have hN : D % 64 < 64 := Nat.mod_lt _ (by decide)
                  clear e1 hdb
                  generalize D % 64 = N at *
                  obtain ⟨L, hL⟩ : ∃ L, L = out ++ (Arm.quad s.data.toList i).take q := ⟨_, rfl⟩
                  rw [← hL] at hown hlen3
                  have HS := Lib.hid hstep
                  have HL := Lib.hid hL
                  clear hstep hqc hL
                  go_wp2_with (first
                    | ((with_reducible refine wpList_index_str rfl 9 _ _ rfl Tryd.underlying9 ⟨#[65, 66, 67, 68, 69, 70, 71, 72, 73, 74, 75, 76, 77, 78, 79, 80, 81, 82, 83, 84, 85, 86, 87, 88, 89, 90, 97, 98, 99, 100, 101, 102, 103, 104, 105, 106, 107, 108, 109, 110, 111, 112, 113, 114, 115, 116, 117, 118, 119, 120, 121, 122, 48, 49, 50, 51, 52, 53, 54, 55, 56, 57, 43, 47]⟩ .i64 N ?_ ?_ ?_ ?_ ?_); exact rfl; exact rfl; omega; (show (N : Int) < 64; omega); simp only [Int.toNat_natCast])
                    | ((with_reducible refine wpList_push_byte rfl _ _ 40 rfl 5 byteRow w.heap.size _ _ wr.heap.size 1 (Arm.sixC N) ?_ ?_ (OwnB.alloc hown _) ?_ ?_ ?_ ?_); exact rfl; exact rfl; exact cell_one _ _ _; exact hlen3; (simp only [World.size_alloc]; have := hb.size; omega)))
                  intro v5 w5 hown5 _ hb5
                  have hb6 : Below w.heap.size w w5 := (hb.alloc hb.size _).trans hb5
                  have hown6 : OwnB w5 w.heap.size 5 v5 (out ++ (Arm.quad s.data.toList i).take (q + 1)) := by
                    rw [HS.out, ← List.append_assoc, ← HL.out]
                    exact hown5
                  have HO := Lib.hid hown6
                  clear hown5 hown6
                  go_wp2_with fail
                  go_roundw
                  case rel => exact ⟨q + 1, by omega, by go_num, HO.out, hb6⟩
                  case measure => simp [intOf]; omega
                · exact absurd hiq (by omega)
              · have hq44 : q = 4 := by omega
                rw [hq44, List.take_of_length_le (by rw [Arm.quad_len]; exact Nat.le_refl _)] at hown
                clear hq44
                obtain ⟨L, hL⟩ : ∃ L, L = out ++ Arm.quad s.data.toList i := ⟨_, rfl⟩
                rw [← hL] at hown
                have hG2 := HG.out
                rw [← List.append_assoc, ← hL] at hG2
                have HG2 := Lib.hid hG2
                have hlL : L.length ≤ 2 * (i + 3) := by rw [hL, List.length_append, Arm.quad_len]; omega
                clear hG2 hL
                go_wp2_with fail
                go_roundw
                case rel => exact ⟨i + 3, L, by omega, by go_num, hlL, HG2, hown, hb⟩
                case measure => simp [intOf]; omega
      · go_wp2_with fail
        go_loop [20, 6] (fun x y => ∃ m : Nat, m ≤ 3 ∧ x = .int .i64 m ∧ y = .int .i64 (Arm.grp s.data.toList i m : Nat)) (fun x _ => 3 - (intOf x).toNat)
        case atStart => exact ⟨0, by omega, rfl, rfl⟩
        case round =>
          obtain ⟨m, hm, rfl, rfl⟩ := hrel
          have hg := Arm.grp_lt s.data.toList i m
          have hgn : Arm.grp s.data.toList i (m + 1) = Arm.grp s.data.toList i m * 256 + Arm.byteN s.data.toList (i + m) := rfl
          have hbd := byteAt_bd s.data.toList (i + m)
          by_cases hm3 : m < 3
          · have hgb : Arm.grp s.data.toList i m < 65536 := Nat.lt_of_lt_of_le hg (Nat.le_trans (Nat.pow_le_pow_right (by decide : 0 < 256) (by omega : m ≤ 2)) (by decide))
            clear hg
            by_cases hin : i + m < s.size
            · have hba : byteAt s.data.toList (i + m) = (Arm.byteN s.data.toList (i + m) : Int) := rfl
              have HB := Lib.hid hba
              have HGN := Lib.hid hgn
              clear hba hgn
              generalize Arm.grp s.data.toList i m = gm at *
              go_wp2_with ((with_reducible refine wpList_index_str rfl 9 _ _ rfl Tryd.underlying9 s .i64 (i + m : Nat) ?_ ?_ ?_ ?_ ?_); exact rfl; (first | exact rfl | (show Value.int _ _ = Value.int _ _; congr 1)); omega; omega; simp only [Int.toNat_natCast])
              go_round
              case rel => exact ⟨m + 1, by omega, by go_num, by rw [HGN.out]; exact congrArg (Value.int .i64) (by rw [HB.out]; omega)⟩
              case measure => simp [intOf]; omega
            · have hz : Arm.byteN s.data.toList (i + m) = 0 := by
                unfold Arm.byteN
                rw [List.getD_eq_getElem?_getD, List.getElem?_eq_none (by rw [size_toList]; omega)]
                rfl
              rw [hz, Nat.add_zero] at hgn
              have HGN := Lib.hid hgn
              clear hz hgn
              generalize Arm.grp s.data.toList i m = gm at *
              go_wp2_with fail
              go_round
              case rel => exact ⟨m + 1, by omega, by go_num, by rw [HGN.out]; exact congrArg (Value.int .i64) (by omega)⟩
              case measure => simp [intOf]; omega
          · have hm33 : m = 3 := by omega
            subst hm33
            have hg3 : Arm.grp s.data.toList i 3 < 16777216 := hg
            clear hg hgn hbd hm3 hm
            obtain ⟨g3, hg3e⟩ : ∃ g3, g3 = Arm.grp s.data.toList i 3 := ⟨_, rfl⟩
            rw [← hg3e] at hg3 ⊢
            have HE := Lib.hid hg3e
            clear hg3e
            go_wp2_with fail
            go_loopw [37, 3] (fun x v wr => ∃ q : Nat, q ≤ 4 ∧ x = .int .i64 q ∧ OwnB wr w.heap.size 5 v (out ++ (Arm.quad s.data.toList i).take q) ∧ Below w.heap.size w wr) (fun x _ _ => 4 - (intOf x).toNat)
            case atStart => exact ⟨0, by omega, rfl, by rw [List.take_zero, List.append_nil]; exact hown, hb⟩
            case round =>
              clear hown hb
              obtain ⟨q, hq, rfl, hown, hb⟩ := hrel
              by_cases hq4 : q < 4
              · have hstep := Arm.quad_take s.data.toList i q hq4
                have hlen3 : (out ++ (Arm.quad s.data.toList i).take q).length < 140737488355328 := by rw [List.length_append, List.length_take, Arm.quad_len]; omega
                by_cases hiq : i + q ≤ s.size
                · have hqc : Arm.quadC s.data.toList i q = Arm.sixC (g3 / 2 ^ (18 - 6 * q) % 64) := by
                    rw [HE.out]
                    exact if_pos (by rw [size_toList]; exact hiq)
                  rw [hqc] at hstep
                  have hdb : g3 / 2 ^ (18 - 6 * q) < 16777216 := Nat.lt_of_le_of_lt (Nat.div_le_self _ _) hg3
                  have e1 : ((g3 / 2 ^ (18 - 6 * q) : Nat) : Int) = (g3 : Int) / 2 ^ (18 - 6 * q) := by simp
                  generalize g3 / 2 ^ (18 - 6 * q) = D at hdb e1 hstep
                  have hdi : 0 ≤ (g3 : Int) / 2 ^ (18 - 6 * q) ∧ (g3 : Int) / 2 ^ (18 - 6 * q) < 16777216 := by rw [← e1]; omega
                  have hand : bits .and .i64 ((g3 : Int) / 2 ^ (18 - 6 * q)) 63 = ((D % 64 : Nat) : Int) := by
                    rw [← e1]
                    exact bits_mask .i64 62 (by decide) (fun x h0 h1 => by rw [IntKind.wrap_i64]; omega) 6 (by decide) (D : Int) (by omega) (by omega)
                  have hN : D % 64 < 64 := Nat.mod_lt _ (by decide)
                  clear e1 hdb
                  generalize D % 64 = N at *
                  obtain ⟨L, hL⟩ : ∃ L, L = out ++ (Arm.quad s.data.toList i).take q := ⟨_, rfl⟩
                  rw [← hL] at hown hlen3
                  have HS := Lib.hid hstep
                  have HL := Lib.hid hL
                  clear hstep hqc hL
                  go_wp2_with (first
                    | ((with_reducible refine wpList_index_str rfl 9 _ _ rfl Tryd.underlying9 ⟨#[65, 66, 67, 68, 69, 70, 71, 72, 73, 74, 75, 76, 77, 78, 79, 80, 81, 82, 83, 84, 85, 86, 87, 88, 89, 90, 97, 98, 99, 100, 101, 102, 103, 104, 105, 106, 107, 108, 109, 110, 111, 112, 113, 114, 115, 116, 117, 118, 119, 120, 121, 122, 48, 49, 50, 51, 52, 53, 54, 55, 56, 57, 43, 47]⟩ .i64 N ?_ ?_ ?_ ?_ ?_); exact rfl; exact rfl; omega; (show (N : Int) < 64; omega); simp only [Int.toNat_natCast])
                    | ((with_reducible refine wpList_push_byte rfl _ _ 40 rfl 5 byteRow w.heap.size _ _ wr.heap.size 1 (Arm.sixC N) ?_ ?_ (OwnB.alloc hown _) ?_ ?_ ?_ ?_); exact rfl; exact rfl; exact cell_one _ _ _; exact hlen3; (simp only [World.size_alloc]; have := hb.size; omega)))
                  intro v5 w5 hown5 _ hb5
                  have hb6 : Below w.heap.size w w5 := (hb.alloc hb.size _).trans hb5
                  have hown6 : OwnB w5 w.heap.size 5 v5 (out ++ (Arm.quad s.data.toList i).take (q + 1)) := by
                    rw [HS.out, ← List.append_assoc, ← HL.out]
                    exact hown5
                  have HO := Lib.hid hown6
                  clear hown5 hown6
                  go_wp2_with fail
                  go_roundw
                  case rel => exact ⟨q + 1, by omega, by go_num, HO.out, hb6⟩
                  case measure => simp [intOf]; omega
                · have hqc : Arm.quadC s.data.toList i q = 61 := if_neg (by rw [size_toList]; exact hiq)
                  rw [hqc] at hstep
                  obtain ⟨L, hL⟩ : ∃ L, L = out ++ (Arm.quad s.data.toList i).take q := ⟨_, rfl⟩
                  rw [← hL] at hown hlen3
                  have HS := Lib.hid hstep
                  have HL := Lib.hid hL
                  clear hstep hqc hL
                  go_wp2_with ((with_reducible refine wpList_push_byte rfl _ _ 40 rfl 5 byteRow w.heap.size _ _ wr.heap.size 1 61 ?_ ?_ (OwnB.alloc hown _) ?_ ?_ ?_ ?_); exact rfl; exact rfl; exact cell_one _ _ _; exact hlen3; (simp only [World.size_alloc]; have := hb.size; omega))
                  intro v5 w5 hown5 _ hb5
                  have hb6 : Below w.heap.size w w5 := (hb.alloc hb.size _).trans hb5
                  have hown6 : OwnB w5 w.heap.size 5 v5 (out ++ (Arm.quad s.data.toList i).take (q + 1)) := by
                    rw [HS.out, ← List.append_assoc, ← HL.out]
                    exact hown5
                  have HO := Lib.hid hown6
                  clear hown5 hown6
                  go_wp2_with fail
                  go_roundw
                  case rel => exact ⟨q + 1, by omega, by go_num, HO.out, hb6⟩
                  case measure => simp [intOf]; omega
              · have hq44 : q = 4 := by omega
                rw [hq44, List.take_of_length_le (by rw [Arm.quad_len]; exact Nat.le_refl _)] at hown
                clear hq44
                obtain ⟨L, hL⟩ : ∃ L, L = out ++ Arm.quad s.data.toList i := ⟨_, rfl⟩
                rw [← hL] at hown
                have hG2 := HG.out
                rw [← List.append_assoc, ← hL] at hG2
                have HG2 := Lib.hid hG2
                have hlL : L.length ≤ 2 * (i + 3) := by rw [hL, List.length_append, Arm.quad_len]; omega
                clear hG2 hL
                go_wp2_with fail
                go_roundw
                case rel => exact ⟨i + 3, L, by omega, by go_num, hlL, HG2, hown, hb⟩
                case measure => simp [intOf]; omega
    · have hgo2 := hgo.out
      rw [List.drop_of_length_le (by rw [size_toList]; omega), Arm.b64, List.append_nil] at hgo2
      have HG := Lib.hid hgo2
      clear hgo2 hgo
      go_wp2_with ((with_reducible refine wpList_own_string rfl 40 9 _ rfl 5 Tryd.underlying40 (by kernel_rfl) (by kernel_rfl) w.heap.size _ _ ?_ hown ?_); exact rfl)
      go_ret
      exact ⟨by rw [HG.out]; rfl, hb⟩
end Go.Proofs.YtjhmfcmcgibgmaaDoor
