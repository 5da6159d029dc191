/-
  ref04's Numeral by its contract: whether a string is a numeral.
-/
import Derived.Test.YtjfkiomegacpeaaDoorJnC
namespace Go.Proofs.YtjfkiomegacpeaaDoor
open Go.RowKit
theorem ite_iff {p q : Prop} [Decidable p] [Decidable q] (h : p ↔ q) (a b : Bool) : (if p then a else b) = if q then a else b := by
  by_cases hp : p
  · rw [if_pos hp, if_pos (h.1 hp)]
  · rw [if_neg hp, if_neg (fun hq => hp (h.2 hq))]
set_option maxRecDepth 100000 in
set_option maxHeartbeats 8000000 in
theorem rnumeral_any (s : ByteArray) (w : World) (hs : s.size ≤ 65536) :
    Calls Tryd.prog 16 #[.string s] w (RetNm w (Jsn.numeral s.data.toList)) := by
  obtain ⟨V, hV⟩ : ∃ V, V = Jsn.numeral s.data.toList := ⟨_, rfl⟩
  rw [← hV]
  have HV := Lib.hid hV
  clear hV
  go_enter Tryd.func16, Tryd.ntmps16
  go_upto_region 1 with fail
  have hN1 : Blk (w.alloc (.cells #[.bool false, .slice none 0 0, .int .i64 0] 46)) w.heap.size 46 #[.bool false, .slice none 0 0, .int .i64 0] := Blk.new _ _ _
  have hb1 := below_alloc (w := w) (.cells #[.bool false, .slice none 0 0, .int .i64 0] 46)
  generalize w.alloc (.cells #[.bool false, .slice none 0 0, .int .i64 0] 46) = w1 at *
  go_upto_region 2 with fail
  have hwB := hN1.lt
  go_cut [5] from 16 to 23 (fun nv wx => ∃ (b : Bool), nv = .bool b ∧ (b = true → 0 < s.size) ∧ Hid (V = Jsn.whole (s.data.toList.drop (if b then 1 else 0))) ∧ wx = w1)
  case first =>
    by_cases hz : 0 < s.size
    · by_cases h45 : s[0] = 45
      · have HW := Lib.hid (HV.out.trans (num_neg hz h45))
        have n45 : ((s[0].toNat : Int) == 45) = true := by rw [h45]; rfl
        clear HV h45
        go_wp2_with fail
        go_meet
        case rel => exact ⟨true, rfl, fun _ => hz, HW, rfl⟩
      · have HW := Lib.hid (HV.out.trans (num_pos (fun _ => h45)))
        have n45 := byte_ne 45 h45
        clear HV h45
        go_wp2_with fail
        go_meet
        case rel => exact ⟨false, (by first | rfl | exact congrArg Value.bool (decide_eq_false (by assumption)) | exact congrArg Value.bool (by assumption)), (fun h => by cases h), HW, rfl⟩
    · have HW := Lib.hid (HV.out.trans (num_pos (fun h => absurd h hz)))
      have hz2 : ¬ (0 : Int) < (s.size : Int) := by omega
      clear HV
      go_wp2_with fail
      go_meet
      case rel => exact ⟨false, (by first | rfl | exact congrArg Value.bool (decide_eq_false (by assumption)) | exact congrArg Value.bool (by assumption)), (fun h => by cases h), HW, rfl⟩
  case rest =>
    obtain ⟨b, rfl, hbz, HW, rfl⟩ := hcut
    clear HV
    have HBz := Lib.hid hbz
    clear hbz
    go_upto_if 24 with fail
    go_cut [4] from 4 to 4 (fun av wx => ∃ p : Nat, av = .int .i64 p ∧ p ≤ s.size ∧ Hid (V = Jsn.whole (s.data.toList.drop p)) ∧ wx = wc)
    case first =>
      cases b with
      | true =>
        have h1 := HBz.out rfl
        have HW2 : Hid (V = Jsn.whole (s.data.toList.drop 1)) := HW
        go_wp2_with fail
        go_meet
        case rel => exact ⟨1, rfl, h1, HW2, rfl⟩
      | false =>
        have HW2 : Hid (V = Jsn.whole (s.data.toList.drop 0)) := HW
        go_wp2_with fail
        go_meet
        case rel => exact ⟨0, rfl, Nat.zero_le _, HW2, rfl⟩
    case rest =>
      clear HW HBz
      obtain ⟨p, rfl, hp, HW, rfl⟩ := hcut
      obtain ⟨n, hn⟩ : ∃ n, n = Jsn.run Jsn.dig (s.data.toList.drop p) := ⟨_, rfl⟩
      have hwh := HW.out.trans (whole_at hn)
      have hle := Jsn.run_le Jsn.dig (s.data.toList.drop p)
      rw [← hn, List.length_drop, size_toList] at hle
      have HR := fun w => rdigits_any s p w (by omega) hp
      rw [← hn] at HR
      unfold RetDg at HR
      obtain ⟨k, hk⟩ : ∃ k, k = p + n := ⟨_, rfl⟩
      rw [← hk] at HR hwh
      have HR := Lib.hid HR
      have hkp : p ≤ k := by omega
      have hks : k ≤ s.size := by omega
      obtain ⟨bad, hbad⟩ : ∃ b, b = decide (k = p ∨ (p + 1 < k ∧ (s.data.toList.drop p).head? = some 48)) := ⟨_, rfl⟩
      have HWB : Hid (V = if bad then false else Jsn.frac (s.data.toList.drop k)) := Lib.hid (by
        rw [hwh, hbad]
        simp only [decide_eq_true_eq]
        refine ite_iff ⟨?_, ?_⟩ _ _
        · rintro (h | h)
          · exact .inl (by omega)
          · exact .inr ⟨by omega, h.2⟩
        · rintro (h | h)
          · exact .inl (by omega)
          · exact .inr ⟨by omega, h.2⟩)
      have HBD := Lib.hid hbad
      have hnk : n ≤ s.size := by omega
      clear hn HW hle hwh hbad hk
      go_wp2_with fail
      refine (HR.out _).mono ?_
      rintro e w2 ⟨⟨cv, lc, rfl, hlc, h9, hown⟩, hb2⟩
      obtain ⟨B, hown, hwB, hBz⟩ : ∃ B, OwnN w2 B 3 cv lc ∧ w.heap.size < B ∧ B ≤ w2.heap.size := ⟨_, hown, hN1.lt, hb2.size⟩
      have hN2 := hN1.below hb2 hN1.lt
      have hbw := hb1.trans (hb2.mono hb1.size)
      have H9 := Lib.hid h9
      have hlc2 : lc.length ≤ s.size := by omega
      clear HR h9 hN1 hb1 hb2 hlc hnk
      go_upto_region 6 with fail
      go_cut [45] from 31 to 45 (fun b wx => b = .bool bad ∧ wx = w2)
      case first =>
        by_cases h0 : k = p
        · have hb : bad = true := by rw [HBD.out, decide_eq_true (.inl h0)]
          subst h0
          subst hb
          go_wp2_with fail
          go_meet
          case rel => exact ⟨(by first | rfl | exact congrArg Value.bool (decide_eq_false (by assumption)) | exact congrArg Value.bool (by assumption)), rfl⟩
        · have e0 : ((k : Int) == (p : Int)) = false := by rw [beq_eq_false_iff_ne]; omega
          have hps : p < s.size := by omega
          have hh := head_drop hps
          by_cases h48 : s[p] = 48
          · have n48 : ((s[p].toNat : Int) == 48) = true := by rw [h48]; rfl
            by_cases h1 : p + 1 < k
            · have hb : bad = true := by rw [HBD.out, decide_eq_true (.inr ⟨h1, by rw [hh, h48]⟩)]
              have d1 : (p : Int) + 1 < (k : Int) := by omega
              subst hb
              clear HBD h48 hh h0
              go_wp2_with fail
              go_meet
              case rel => exact ⟨(by first | rfl | exact congrArg Value.bool (decide_eq_false (by assumption)) | exact congrArg Value.bool (by assumption)), rfl⟩
            · have hb : bad = false := by rw [HBD.out, decide_eq_false (by rintro (h | h); exact h0 h; exact h1 h.1)]
              have d1 : ¬ (p : Int) + 1 < (k : Int) := by omega
              subst hb
              clear HBD h48 hh h0
              go_wp2_with fail
              go_meet
              case rel => exact ⟨(by first | rfl | exact congrArg Value.bool (decide_eq_false (by assumption)) | exact congrArg Value.bool (by assumption)), rfl⟩
          · have n48 := byte_ne 48 h48
            have hb : bad = false := by
              rw [HBD.out, decide_eq_false]
              rintro (h | h)
              · exact h0 h
              · rw [hh] at h; exact h48 (Option.some.inj h.2)
            subst hb
            clear HBD h48 hh h0
            have n48' : ¬ (s[p].toNat : Int) = 48 := fun e => by rw [e] at n48; exact absurd n48 (by decide)
            go_wp2_with fail
            all_goals first
              | (exfalso; omega)
              | (go_meet; case rel => exact ⟨(by first | rfl | exact congrArg Value.bool (decide_eq_false (by assumption)) | exact congrArg Value.bool (by assumption) | exact congrArg Value.bool (by rw [beq_eq_false_iff_ne.2 n1', beq_eq_false_iff_ne.2 n2']; rfl)), rfl⟩)
      case rest =>
        obtain ⟨rfl, rfl⟩ := hcut
        clear HBD
        cases bad with
        | true =>
          have HF : Hid (V = false) := HWB
          go_wp2_with ((with_reducible refine wpList_store_three rfl 46 (.tmp 2) (.tmp 46) rfl rfl w.heap.size (.bool false) (.slice none 0 0) (.int .i64 0) (.bool false) (.slice none 0 0) (.int .i64 0) 46 rnumRow (one_bool _) (one_slice _ _ _) (one_int _ _) ?_ ?_ hN2 ?_); exact rfl; exact rfl)
          refine bodyPost_ret (v := .tuple #[.agg #[.bool false, .slice none 0 0, .int .i64 0], .bool false]) (by exact results_cell_tmp rfl _ _ w.heap.size 46 #[.bool false, .slice none 0 0, .int .i64 0] _ (.bool false) rfl rfl (hN2.row _) Tryd.underlying46 rfl rnumRow) rfl ?_
          have hv := HF.out
          subst hv
          exact ⟨⟨false, _, 0, rfl, rfl⟩, setRow_below hbw (Nat.le_refl _) _⟩
        | false =>
          have HWF : Hid (V = Jsn.frac (s.data.toList.drop k)) := HWB
          clear HWB
          obtain ⟨fr, hfr⟩ : ∃ b, b = decide (∃ h : k < s.size, s[k] = 46) := ⟨_, rfl⟩
          have HFR := Lib.hid hfr
          clear hfr
          go_upto_region 10 with fail
          go_cut [57] from 48 to 57 (fun b wx => b = .bool fr ∧ wx = wc)
          case first =>
            by_cases hk : k < s.size
            · by_cases h46 : s[k] = 46
              · have hb : fr = true := by rw [HFR.out, decide_eq_true ⟨hk, h46⟩]
                have n46 : ((s[k].toNat : Int) == 46) = true := by rw [h46]; rfl
                subst hb
                clear HFR h46
                go_wp2_with fail
                go_meet
                case rel => exact ⟨(by first | rfl | exact congrArg Value.bool (decide_eq_false (by assumption)) | exact congrArg Value.bool (by assumption)), rfl⟩
              · have hb : fr = false := by rw [HFR.out, decide_eq_false (fun h => h46 h.2)]
                have n46 := byte_ne 46 h46
                have n46' : ¬ (s[k].toNat : Int) = 46 := fun e => by rw [e] at n46; exact absurd n46 (by decide)
                subst hb
                clear HFR h46
                go_wp2_with fail
                all_goals first
                  | (exfalso; omega)
                  | (go_meet; case rel => exact ⟨(by first | rfl | exact congrArg Value.bool (decide_eq_false (by assumption)) | exact congrArg Value.bool (by assumption) | exact congrArg Value.bool (by rw [beq_eq_false_iff_ne.2 n1', beq_eq_false_iff_ne.2 n2']; rfl)), rfl⟩)
            · have hb : fr = false := by rw [HFR.out, decide_eq_false (fun h => hk h.1)]
              have hk2 : ¬ (k : Int) < (s.size : Int) := by omega
              subst hb
              clear HFR
              go_wp2_with fail
              go_meet
              case rel => exact ⟨(by first | rfl | exact congrArg Value.bool (decide_eq_false (by assumption)) | exact congrArg Value.bool (by assumption)), rfl⟩
          case rest =>
            obtain ⟨rfl, rfl⟩ := hcut
            go_upto_if 57 with fail
            go_cut [4, 6, 8, 9, 10] from 59 to 76 (fun av cv2 ev fv mv wx => ∃ (q : Nat) (lc2 : List Nat) (x : Int), av = .int .i64 q ∧ ev = .int .i64 x ∧ q ≤ s.size ∧ lc2.length ≤ 2 * s.size ∧ -65536 ≤ x ∧ x ≤ 0 ∧ Hid (∀ y ∈ lc2, y ≤ 9) ∧ OwnN wx B 3 cv2 lc2 ∧ Hid (V = Jsn.expo (s.data.toList.drop q)) ∧ Blk wx w.heap.size 46 #[.bool false, .slice none 0 0, .int .i64 0] ∧ Below w.heap.size w wx)
            case first =>
              cases fr with
              | false =>
                have hnf : ¬ ∃ h : k < s.size, s[k] = 46 := of_decide_eq_false HFR.out.symm
                have HWE : Hid (V = Jsn.expo (s.data.toList.drop k)) := Lib.hid (HWF.out.trans (frac_no (fun h e => hnf ⟨h, e⟩)))
                clear HFR HWF hnf
                go_wp2_with fail
                go_meet
                case rel => exact ⟨k, lc, 0, rfl, rfl, hks, by omega, by omega, by omega, H9, hown, HWE, hN2, hbw⟩
              | true =>
                obtain ⟨hk, h46⟩ := of_decide_eq_true HFR.out.symm
                obtain ⟨m, hm⟩ : ∃ m, m = Jsn.run Jsn.dig (s.data.toList.drop (k + 1)) := ⟨_, rfl⟩
                have hwe := HWF.out.trans (frac_dot hk h46 hm)
                have hle := Jsn.run_le Jsn.dig (s.data.toList.drop (k + 1))
                rw [← hm, List.length_drop, size_toList] at hle
                have HR := fun w => rdigits_any s (k + 1) w (by omega) (by omega)
                rw [← hm] at HR
                unfold RetDg at HR
                obtain ⟨k2, hk2⟩ : ∃ x, x = k + 1 + m := ⟨_, rfl⟩
                have hk1 : ((k + 1 : Nat) : Int) = (k : Int) + 1 := by omega
                rw [← hk2, hk1] at HR
                rw [← hk2] at hwe
                have HR := Lib.hid HR
                have k2a : k + 1 ≤ k2 := by omega
                have k2b : k2 ≤ s.size := by omega
                by_cases h0 : m = 0
                · rw [if_pos h0] at hwe
                  have HF : Hid (V = false) := Lib.hid hwe
                  have e0 : ((k2 : Int) == (k : Int) + 1) = true := by rw [beq_iff_eq]; omega
                  clear HWF HFR h46 hm hle hwe hk2 hk1 h0
                  go_wp2_with fail
                  refine (HR.out _).mono ?_
                  rintro e w3 ⟨⟨fv, lf, rfl, hlf, f9, hownf⟩, hb3⟩
                  have hN3 := hN2.below hb3 hN2.lt
                  have hbw3 := hbw.trans (hb3.mono hbw.size)
                  clear HR f9 hownf hN2 hbw hown
                  go_wp2_with ((with_reducible refine wpList_store_three rfl 46 (.tmp 2) (.tmp 69) rfl rfl w.heap.size (.bool false) (.slice none 0 0) (.int .i64 0) (.bool false) (.slice none 0 0) (.int .i64 0) 46 rnumRow (one_bool _) (one_slice _ _ _) (one_int _ _) ?_ ?_ hN3 ?_); exact rfl; exact rfl)
                  refine bodyPost_ret (v := .tuple #[.agg #[.bool false, .slice none 0 0, .int .i64 0], .bool false]) (by exact results_cell_tmp rfl _ _ w.heap.size 46 #[.bool false, .slice none 0 0, .int .i64 0] _ (.bool false) rfl rfl (hN3.row _) Tryd.underlying46 rfl rnumRow) rfl ?_
                  have hv := HF.out
                  subst hv
                  exact ⟨⟨false, _, 0, rfl, rfl⟩, setRow_below hbw3 (Nat.le_refl _) _⟩
                · rw [if_neg h0] at hwe
                  have HWE := Lib.hid hwe
                  have e0 : ((k2 : Int) == (k : Int) + 1) = false := by rw [beq_eq_false_iff_ne]; omega
                  have hms : m ≤ s.size := by omega
                  clear HWF HFR h46 hm hle hwe hk2 hk1
                  go_wp2_with fail
                  refine (HR.out _).mono ?_
                  rintro e w3 ⟨⟨fv, lf, rfl, hlf, f9, hownf⟩, hb3⟩
                  have hN3 := hN2.below hb3 hN2.lt
                  have hbw3 := hbw.trans (hb3.mono hbw.size)
                  have hown3 := hown.keep hb3
                  have hBz3 : B ≤ w3.heap.size := Nat.le_trans hBz hb3.size
                  have H99 : Hid (∀ y ∈ lc ++ lf, y ≤ 9) := Lib.hid (fun y hy => by
                    rcases List.mem_append.1 hy with hy | hy
                    · exact H9.out y hy
                    · exact f9 y hy)
                  rcases hownf.form with ⟨rfl, rfl⟩ | ⟨gf, capf, rfl, hcf, _, hgf⟩
                  · exact absurd hlf.symm h0
                  · have hcell := fun j hj => hownf.cell j hj
                    have HC := Lib.hid hcell
                    rw [hlf] at hcf
                    have hlen : (lc ++ lf).length ≤ 2 * s.size := by rw [List.length_append]; omega
                    have HLF := Lib.hid hlf
                    rw [hlf]
                    clear HR f9 hownf hN2 hbw hown hcell hlf h0
                    go_wp2_with ((with_reducible refine wpList_push_nats rfl (.tmp 70) (.tmp 71) 44 rfl 3 intRow B _ lc gf m capf lf ?_ ?_ hown3 HLF.out ?_ ?_ hBz3 ?_); exact rfl; exact rfl; exact (fun j hj => HC.out j (by rw [HLF.out]; exact hj)); omega)
                    intro v4 w4 hown4 hb4
                    have hN4 := hN3.below hb4 hwB
                    have hbw4 := hbw3.trans (hb4.mono (Nat.le_of_lt hwB))
                    go_wp2_with fail
                    go_meet
                    case rel => exact ⟨k2, lc ++ lf, -(m : Int), rfl, rfl, k2b, hlen, by omega, by omega, H99, hown4, HWE, hN4, hbw4⟩
            case rest =>
              obtain ⟨q, lc2, x, rfl, rfl, hq, hlq, hx1, hx2, H92, hown2, HWE, hN3, hbw3⟩ := hcut
              clear HWF HFR hown hN2 hbw H9 hBz hlc2
              obtain ⟨ex, hex⟩ : ∃ b, b = decide (∃ h : q < s.size, s[q] = 101 ∨ s[q] = 69) := ⟨_, rfl⟩
              have HEX := Lib.hid hex
              clear hex
              go_upto_region 17 with fail
              go_cut [92] from 77 to 92 (fun b wx => b = .bool ex ∧ wx = wc)
              case first =>
                by_cases hq1 : q < s.size
                · have hqi : (q : Int) < (s.size : Int) := by omega
                  have hq0 : 0 ≤ (q : Int) := by omega
                  by_cases g1 : s[q] = 101
                  · have hb : ex = true := by rw [HEX.out, decide_eq_true ⟨hq1, .inl g1⟩]
                    have n1 : ((s[q].toNat : Int) == 101) = true := by rw [g1]; rfl
                    have n1' : (s[q].toNat : Int) = 101 := by rw [g1]; rfl
                    subst hb
                    clear HEX g1
                    go_wp2_with fail
                    all_goals first
                      | (exfalso; omega)
                      | (go_meet; case rel => exact ⟨(by first | rfl | exact congrArg Value.bool (decide_eq_false (by assumption)) | exact congrArg Value.bool (by assumption) | exact congrArg Value.bool (by rw [beq_eq_false_iff_ne.2 n1', beq_eq_false_iff_ne.2 n2']; rfl)), rfl⟩)
                  · have n1 := byte_ne 101 g1
                    have n1' : ¬ (s[q].toNat : Int) = 101 := fun e => by rw [e] at n1; exact absurd n1 (by decide)
                    by_cases g2 : s[q] = 69
                    · have hb : ex = true := by rw [HEX.out, decide_eq_true ⟨hq1, .inr g2⟩]
                      have n2 : ((s[q].toNat : Int) == 69) = true := by rw [g2]; rfl
                      have n2' : (s[q].toNat : Int) = 69 := by rw [g2]; rfl
                      subst hb
                      clear HEX g1 g2
                      go_wp2_with fail
                      all_goals first
                        | (exfalso; omega)
                        | (go_meet; case rel => exact ⟨(by first | rfl | exact congrArg Value.bool (decide_eq_false (by assumption)) | exact congrArg Value.bool (by assumption) | exact congrArg Value.bool (by rw [beq_eq_false_iff_ne.2 n1', beq_eq_false_iff_ne.2 n2']; rfl)), rfl⟩)
                    · have hb : ex = false := by
                        rw [HEX.out, decide_eq_false]
                        rintro ⟨_, h | h⟩
                        · exact g1 h
                        · exact g2 h
                      have n2 := byte_ne 69 g2
                      have n2' : ¬ (s[q].toNat : Int) = 69 := fun e => by rw [e] at n2; exact absurd n2 (by decide)
                      subst hb
                      clear HEX g1 g2
                      go_wp2_with fail
                      all_goals first
                        | (exfalso; omega)
                        | (go_meet; case rel => exact ⟨(by first | rfl | exact congrArg Value.bool (decide_eq_false (by assumption)) | exact congrArg Value.bool (by assumption) | exact congrArg Value.bool (by rw [beq_eq_false_iff_ne.2 n1', beq_eq_false_iff_ne.2 n2']; rfl)), rfl⟩)
                · have hb : ex = false := by rw [HEX.out, decide_eq_false (fun h => hq1 h.1)]
                  have hq2 : ¬ (q : Int) < (s.size : Int) := by omega
                  subst hb
                  clear HEX
                  go_wp2_with fail
                  go_meet
                  case rel => exact ⟨(by first | rfl | exact congrArg Value.bool (decide_eq_false (by assumption)) | exact congrArg Value.bool (by assumption)), rfl⟩
              case rest =>
                obtain ⟨rfl, rfl⟩ := hcut
                go_upto_if 92 with fail
                go_cut [4, 8, 11, 12, 13, 14, 15] from 93 to 146 (fun av ev sv xv mv nv iv wx => ∃ (q2 : Nat) (x2 : Int), av = .int .i64 q2 ∧ ev = .int .i64 x2 ∧ -2000000 ≤ x2 ∧ x2 ≤ 2000000 ∧ Hid (V = decide (q2 = s.size)) ∧ OwnN wx B 3 u6 lc2 ∧ Blk wx w.heap.size 46 #[.bool false, .slice none 0 0, .int .i64 0] ∧ Below w.heap.size w wx)
                case first =>
                  cases ex with
                  | false =>
                    have hnx : ¬ ∃ h : q < s.size, s[q] = 101 ∨ s[q] = 69 := of_decide_eq_false HEX.out.symm
                    have HV2 : Hid (V = decide (q = s.size)) := Lib.hid (by
                      rw [HWE.out]
                      by_cases hqs : q < s.size
                      · rw [expo_no hqs (fun e => hnx ⟨hqs, .inl e⟩) (fun e => hnx ⟨hqs, .inr e⟩), decide_eq_false (by omega)]
                      · rw [expo_nil (by omega), decide_eq_true (by omega)])
                    clear HEX HWE hnx
                    go_wp2_with fail
                    go_meet
                    case rel => exact ⟨q, x, rfl, rfl, by omega, by omega, HV2, hown2, hN3, hbw3⟩
                  | true =>
                    obtain ⟨hqs, hce⟩ := of_decide_eq_true HEX.out.symm
                    have HSG : Hid (∀ hq : q + 1 < s.size, s[q + 1] = 43 ∨ s[q + 1] = 45 → V = tl (s.data.toList.drop (q + 2))) := Lib.hid (fun h1 h2 => HWE.out.trans (expo_sign hqs hce h1 h2))
                    have HSN : Hid ((∀ hq : q + 1 < s.size, s[q + 1] ≠ 43 ∧ s[q + 1] ≠ 45) → V = tl (s.data.toList.drop (q + 1))) := Lib.hid (fun h => HWE.out.trans (expo_none hqs hce h))
                    clear HEX HWE hce
                    obtain ⟨sg, hsg⟩ : ∃ b, b = decide (∃ h : q + 1 < s.size, s[q + 1] = 43 ∨ s[q + 1] = 45) := ⟨_, rfl⟩
                    have HEX := Lib.hid hsg
                    clear hsg
                    go_upto_region 20 with fail
                    go_cut [110] from 95 to 110 (fun b wx => b = .bool sg ∧ wx = wc)
                    case first =>
                      by_cases hq1 : q + 1 < s.size
                      · have hqi : (q : Int) + 1 < (s.size : Int) := by omega
                        have hq0 : 0 ≤ (q : Int) + 1 := by omega
                        by_cases g1 : s[q + 1] = 43
                        · have hb : sg = true := by rw [HEX.out, decide_eq_true ⟨hq1, .inl g1⟩]
                          have n1 : ((s[q + 1].toNat : Int) == 43) = true := by rw [g1]; rfl
                          have n1' : (s[q + 1].toNat : Int) = 43 := by rw [g1]; rfl
                          subst hb
                          clear HEX g1
                          go_wp2_with fail
                          all_goals first
                            | (exfalso; omega)
                            | (go_meet; case rel => exact ⟨(by first | rfl | exact congrArg Value.bool (decide_eq_false (by assumption)) | exact congrArg Value.bool (by assumption) | exact congrArg Value.bool (by rw [beq_eq_false_iff_ne.2 n1', beq_eq_false_iff_ne.2 n2']; rfl)), rfl⟩)
                        · have n1 := byte_ne 43 g1
                          have n1' : ¬ (s[q + 1].toNat : Int) = 43 := fun e => by rw [e] at n1; exact absurd n1 (by decide)
                          by_cases g2 : s[q + 1] = 45
                          · have hb : sg = true := by rw [HEX.out, decide_eq_true ⟨hq1, .inr g2⟩]
                            have n2 : ((s[q + 1].toNat : Int) == 45) = true := by rw [g2]; rfl
                            have n2' : (s[q + 1].toNat : Int) = 45 := by rw [g2]; rfl
                            subst hb
                            clear HEX g1 g2
                            go_wp2_with fail
                            all_goals first
                              | (exfalso; omega)
                              | (go_meet; case rel => exact ⟨(by first | rfl | exact congrArg Value.bool (decide_eq_false (by assumption)) | exact congrArg Value.bool (by assumption) | exact congrArg Value.bool (by rw [beq_eq_false_iff_ne.2 n1', beq_eq_false_iff_ne.2 n2']; rfl)), rfl⟩)
                          · have hb : sg = false := by
                              rw [HEX.out, decide_eq_false]
                              rintro ⟨_, h | h⟩
                              · exact g1 h
                              · exact g2 h
                            have n2 := byte_ne 45 g2
                            have n2' : ¬ (s[q + 1].toNat : Int) = 45 := fun e => by rw [e] at n2; exact absurd n2 (by decide)
                            subst hb
                            clear HEX g1 g2
                            go_wp2_with fail
                            all_goals first
                              | (exfalso; omega)
                              | (go_meet; case rel => exact ⟨(by first | rfl | exact congrArg Value.bool (decide_eq_false (by assumption)) | exact congrArg Value.bool (by assumption) | exact congrArg Value.bool (by rw [beq_eq_false_iff_ne.2 n1', beq_eq_false_iff_ne.2 n2']; rfl)), rfl⟩)
                      · have hb : sg = false := by rw [HEX.out, decide_eq_false (fun h => hq1 h.1)]
                        have hq2 : ¬ (q : Int) + 1 < (s.size : Int) := by omega
                        subst hb
                        clear HEX
                        go_wp2_with fail
                        go_meet
                        case rel => exact ⟨(by first | rfl | exact congrArg Value.bool (decide_eq_false (by assumption)) | exact congrArg Value.bool (by assumption)), rfl⟩
                    case rest =>
                      obtain ⟨rfl, rfl⟩ := hcut
                      go_upto_if 110 with fail
                      go_cut [4, 11] from 111 to 116 (fun av sv wx => ∃ (q2 : Nat) (sn : Int), av = .int .i64 q2 ∧ sv = .int .i64 sn ∧ (sn = 1 ∨ sn = -1) ∧ q2 ≤ s.size ∧ Hid (V = tl (s.data.toList.drop q2)) ∧ wx = wc)
                      case first =>
                        cases sg with
                        | false =>
                          have hnx : ¬ ∃ h : q + 1 < s.size, s[q + 1] = 43 ∨ s[q + 1] = 45 := of_decide_eq_false HEX.out.symm
                          have HT : Hid (V = tl (s.data.toList.drop (q + 1))) := Lib.hid (HSN.out (fun h => ⟨fun e => hnx ⟨h, .inl e⟩, fun e => hnx ⟨h, .inr e⟩⟩))
                          clear HEX HSG HSN hnx
                          go_wp2_with fail
                          go_meet
                          case rel => exact ⟨q + 1, 1, by go_num, rfl, .inl rfl, hqs, HT, rfl⟩
                        | true =>
                          obtain ⟨hq1, hce⟩ := of_decide_eq_true HEX.out.symm
                          have HT : Hid (V = tl (s.data.toList.drop (q + 2))) := Lib.hid (HSG.out hq1 hce)
                          have hqi : (q : Int) + 1 < (s.size : Int) := by omega
                          have hq0 : 0 ≤ (q : Int) + 1 := by omega
                          by_cases g2 : s[q + 1] = 45
                          · have n2 : ((s[q + 1].toNat : Int) == 45) = true := by rw [g2]; rfl
                            clear HEX HSG HSN hce g2
                            go_wp2_with fail
                            go_meet
                            case rel => exact ⟨q + 2, -1, by go_num, rfl, .inr rfl, by omega, HT, rfl⟩
                          · have n2 := byte_ne 45 g2
                            have n2' : ¬ (s[q + 1].toNat : Int) = 45 := fun e => by rw [e] at n2; exact absurd n2 (by decide)
                            clear HEX HSG HSN hce g2
                            go_wp2_with fail
                            all_goals first
                              | (exfalso; omega)
                              | (go_meet; case rel => exact ⟨q + 2, 1, by go_num, rfl, .inl rfl, by omega, HT, rfl⟩)
                      case rest =>
                        clear HEX HSG HSN
                        obtain ⟨q2, sn, rfl, rfl, hsn, hq2, HT, rfl⟩ := hcut
                        obtain ⟨m, hm⟩ : ∃ m, m = Jsn.run Jsn.dig (s.data.toList.drop q2) := ⟨_, rfl⟩
                        have hte := HT.out.trans (tl_at hq2 hm)
                        have hle := Jsn.run_le Jsn.dig (s.data.toList.drop q2)
                        rw [← hm, List.length_drop, size_toList] at hle
                        have HR := fun w => rdigits_any s q2 w (by omega) hq2
                        rw [← hm] at HR
                        unfold RetDg at HR
                        obtain ⟨q3, hq3⟩ : ∃ x, x = q2 + m := ⟨_, rfl⟩
                        rw [← hq3] at HR hte
                        have HR := Lib.hid HR
                        by_cases h0 : m = 0
                        · have HF : Hid (V = false) := Lib.hid (by rw [hte, h0]; rfl)
                          have e0 : ((q3 : Int) == (q2 : Int)) = true := by rw [beq_iff_eq]; omega
                          clear hm hle hte hq3 h0 HT
                          go_wp2_with fail
                          refine (HR.out _).mono ?_
                          rintro e w4 ⟨⟨xv, lx, rfl, hlx, x9, hownx⟩, hb4⟩
                          have hN4 := hN3.below hb4 hN3.lt
                          have hbw4 := hbw3.trans (hb4.mono hbw3.size)
                          clear HR x9 hownx hN3 hbw3 hown2
                          go_wp2_with ((with_reducible refine wpList_store_three rfl 46 (.tmp 2) (.tmp 126) rfl rfl w.heap.size (.bool false) (.slice none 0 0) (.int .i64 0) (.bool false) (.slice none 0 0) (.int .i64 0) 46 rnumRow (one_bool _) (one_slice _ _ _) (one_int _ _) ?_ ?_ hN4 ?_); exact rfl; exact rfl)
                          refine bodyPost_ret (v := .tuple #[.agg #[.bool false, .slice none 0 0, .int .i64 0], .bool false]) (by exact results_cell_tmp rfl _ _ w.heap.size 46 #[.bool false, .slice none 0 0, .int .i64 0] _ (.bool false) rfl rfl (hN4.row _) Tryd.underlying46 rfl rnumRow) rfl ?_
                          have hv := HF.out
                          subst hv
                          exact ⟨⟨false, _, 0, rfl, rfl⟩, setRow_below hbw4 (Nat.le_refl _) _⟩
                        · have HV2 : Hid (V = decide (q3 = s.size)) := Lib.hid (by rw [hte, decide_eq_true h0, Bool.true_and])
                          have e0 : ((q3 : Int) == (q2 : Int)) = false := by rw [beq_eq_false_iff_ne]; omega
                          have hms : m ≤ s.size := by omega
                          clear hm hle hte hq3 HT
                          go_wp2_with fail
                          refine (HR.out _).mono ?_
                          rintro e w4 ⟨⟨xv, lx, rfl, hlx, x9, hownx⟩, hb4⟩
                          have hN4 := hN3.below hb4 hN3.lt
                          have hbw4 := hbw3.trans (hb4.mono hbw3.size)
                          have hown4 := hown2.keep hb4
                          obtain ⟨aox, capx, rfl, hcx, hrx⟩ := hownx.rd x9
                          rw [hlx] at hcx hrx
                          rw [hlx]
                          have HRX := Lib.hid hrx
                          clear HR x9 hownx hN3 hbw3 hown2 hrx hlx
                          go_wp2_with fail
                          go_loopg [14, 15] m (fun gg nv iv wr => ∃ (i y : Nat), i + gg = m ∧ iv = .int .i64 i ∧ nv = .int .i64 y ∧ y ≤ 1000000 ∧ w4 = wr)
                          case atStart => exact ⟨0, 0, by omega, rfl, rfl, by omega, rfl⟩
                          case round =>
                            obtain ⟨i, y, hi, rfl, rfl, hy, rfl⟩ := hrel
                            by_cases him : i < m
                            · obtain ⟨gx, rfl, hgx, hcx2⟩ := HRX.out (by omega)
                              obtain ⟨d, hd, hd9⟩ := hcx2 i him
                              clear hcx2
                              by_cases hmin : 10 * y + d ≤ 1000000
                              · have hmin2 : 10 * (y : Int) + (d : Int) ≤ 1000000 := by omega
                                go_wp2_with fail
                                go_roundg (m - (i + 1))
                                case measure => omega
                                case rel => exact ⟨i + 1, 10 * y + d, by omega, by go_num, by go_num, hmin, rfl⟩
                              · have hmin2 : ¬ 10 * (y : Int) + (d : Int) ≤ 1000000 := by omega
                                go_wp2_with fail
                                go_roundg (m - (i + 1))
                                case measure => omega
                                case rel => exact ⟨i + 1, 1000000, by omega, by go_num, by go_num, by omega, rfl⟩
                            · rcases hsn with rfl | rfl
                              · go_wp2_with fail
                                go_meet
                                case rel => exact ⟨q3, x + (y : Int), rfl, by go_num, by omega, by omega, HV2, hown4, hN4, hbw4⟩
                              · go_wp2_with fail
                                go_meet
                                case rel => exact ⟨q3, x + -(y : Int), rfl, by go_num, by omega, by omega, HV2, hown4, hN4, hbw4⟩
                case rest =>
                  obtain ⟨q2, x2, rfl, rfl, y1, y2, HV2, hown4, hN4, hbw4⟩ := hcut
                  obtain ⟨ao2, cap2, rfl, hcap2, hrd2⟩ := hown4.rd H92.out
                  have HNm := Lib.hid (fun nb => rnorm_any nb ao2 lc2.length cap2 x2 _ (by omega) hcap2 hrd2 (by omega) (by omega))
                  clear HEX HWE hown2 hN3 hbw3 hown4 H92 hrd2
                  have hcs : (((q2 : Int) == (s.size : Int)) = true ∧ V = true) ∨ (((q2 : Int) == (s.size : Int)) = false ∧ V = false) := by
                    by_cases hqs : q2 = s.size
                    · exact .inl ⟨by rw [beq_iff_eq]; omega, by rw [HV2.out, decide_eq_true hqs]⟩
                    · exact .inr ⟨by rw [beq_eq_false_iff_ne]; omega, by rw [HV2.out, decide_eq_false hqs]⟩
                  clear HV2
                  rcases hcs with ⟨e0, rfl⟩ | ⟨e0, rfl⟩
                  · go_wp2_with (first | (go_at_call 26; refine (HNm.out _).mono ?_; rintro e w5 ⟨⟨nn, vv, y, rfl, hv1⟩, hb5⟩; have hN5 := hN4.below hb5 hN4.lt; have hbw5 := hbw4.trans (hb5.mono hbw4.size)) | ((with_reducible refine wpList_store_three rfl 46 (.tmp 2) (.tmp 150) rfl rfl w.heap.size (.bool false) (.slice none 0 0) (.int .i64 0) (.bool nn) vv (.int .i64 y) 46 rnumRow (one_bool _) hv1 (one_int _ _) ?_ ?_ hN5 ?_); exact rfl; exact rfl))
                    refine bodyPost_ret (v := .tuple #[.agg #[.bool nn, vv, .int .i64 y], .bool true]) (by exact results_cell_tmp rfl _ _ w.heap.size 46 #[.bool nn, vv, .int .i64 y] _ (.bool true) rfl rfl (hN5.row _) Tryd.underlying46 rfl rnumRow) rfl ?_
                    exact ⟨⟨nn, vv, y, rfl, hv1⟩, setRow_below hbw5 (Nat.le_refl _) _⟩
                  · go_wp2_with (first | (go_at_call 26; refine (HNm.out _).mono ?_; rintro e w5 ⟨⟨nn, vv, y, rfl, hv1⟩, hb5⟩; have hN5 := hN4.below hb5 hN4.lt; have hbw5 := hbw4.trans (hb5.mono hbw4.size)) | ((with_reducible refine wpList_store_three rfl 46 (.tmp 2) (.tmp 150) rfl rfl w.heap.size (.bool false) (.slice none 0 0) (.int .i64 0) (.bool nn) vv (.int .i64 y) 46 rnumRow (one_bool _) hv1 (one_int _ _) ?_ ?_ hN5 ?_); exact rfl; exact rfl))
                    refine bodyPost_ret (v := .tuple #[.agg #[.bool nn, vv, .int .i64 y], .bool false]) (by exact results_cell_tmp rfl _ _ w.heap.size 46 #[.bool nn, vv, .int .i64 y] _ (.bool false) rfl rfl (hN5.row _) Tryd.underlying46 rfl rnumRow) rfl ?_
                    exact ⟨⟨nn, vv, y, rfl, hv1⟩, setRow_below hbw5 (Nat.le_refl _) _⟩
end Go.Proofs.YtjfkiomegacpeaaDoor
