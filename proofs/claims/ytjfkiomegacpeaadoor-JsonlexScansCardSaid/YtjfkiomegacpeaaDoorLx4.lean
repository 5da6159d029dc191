/-
  The reference's lexer: sequence by its contract. Laid by wip/gen/lxseq.py.
-/
import Derived.Test.YtjfkiomegacpeaaDoorLx3
import Derived.Test.YtjfkiomegacpeaaDoorJsS
import Derived.Test.YtjfkiomegacpeaaDoorJnD
namespace Go.Proofs.YtjfkiomegacpeaaDoor
open Go.RowKit
def RetLx (g : Nat) (s : ByteArray) (i : Nat) (T : List Jsn.T) (N : List Jsn.Note) (a : Int) (w : World) (r : Jsn.Tok) (e : Go.Ending) (w' : World) : Prop :=
  e = .returned (.tuple #[]) ∧ (match r with
    | .ok k n t => LxOk w' g s (i + n) (T ++ [⟨k, i, i + n, t⟩]) N a
    | .bad c n => LxBad w' g s c (i + n)) ∧ Below g w w'
theorem sub_list {s : ByteArray} {i q : Nat} : (s.extract i q).data.toList = (s.data.toList.drop i).take (q - i) := by
  rw [ByteArray.data_extract, Array.toList_extract, List.extract_eq_take_drop]
theorem sub_first {s : ByteArray} {i q : Nat} (h : i < q) (hq : q ≤ s.size) : ∃ h : 0 < (s.extract i q).size, (s.extract i q)[0] = s[i] := by
  have hz : (s.extract i q).size = q - i := by rw [ByteArray.size_extract, Nat.min_eq_left hq]
  refine ⟨by omega, ?_⟩
  have h1 : 0 < (s.extract i q).size := by omega
  have e1 := drop_at (s.extract i q) 0 h1
  rw [List.drop_zero, sub_list, drop_at s i (by omega), show q - i = (q - i - 1) + 1 by omega, List.take_succ_cons] at e1
  exact (List.cons.inj e1).1.symm
theorem word_cases (t : ByteArray) : (t.toList == [116, 114, 117, 101]) = true ∧ Jsn.word t.data.toList = true ∨ (t.toList == [116, 114, 117, 101]) = false ∧ (t.toList == [102, 97, 108, 115, 101]) = true ∧ Jsn.word t.data.toList = true ∨ (t.toList == [116, 114, 117, 101]) = false ∧ (t.toList == [102, 97, 108, 115, 101]) = false ∧ (t.toList == [110, 117, 108, 108]) = true ∧ Jsn.word t.data.toList = true ∨
    (t.toList == [116, 114, 117, 101]) = false ∧ (t.toList == [102, 97, 108, 115, 101]) = false ∧ (t.toList == [110, 117, 108, 108]) = false ∧ Jsn.word t.data.toList = false := by
  rw [toList_eq]
  unfold Jsn.word
  cases (t.data.toList == [116, 114, 117, 101]) <;> cases (t.data.toList == [102, 97, 108, 115, 101]) <;> cases (t.data.toList == [110, 117, 108, 108]) <;> simp
set_option maxRecDepth 100000 in
set_option maxHeartbeats 8000000 in
theorem lseq_any (g : Nat) (s : ByteArray) (i : Nat) (T : List Jsn.T) (N : List Jsn.Note) (a : Int) (w : World) (h : LxOk w g s i T N a) (hs : s.size ≤ 65536) (hi : i < s.size) (hT : T.length ≤ 65536) (hsq : Jsn.seqc s[i] = true) :
    Calls Tryd.prog 41 #[.pointer (some ⟨g, 0, none⟩)] w (RetLx g s i T N a w (Jsn.sequence (s.data.toList.drop i))) := by
  obtain ⟨tv, nv, hB, hOT, hON⟩ := h
  obtain ⟨V, hV⟩ : ∃ V, V = Jsn.sequence (s.data.toList.drop i) := ⟨_, rfl⟩
  rw [← hV]
  obtain ⟨m, hm⟩ : ∃ m, m = i + Jsn.run Jsn.seqc (s.data.toList.drop i) := ⟨_, rfl⟩
  have hrl := Jsn.run_le Jsn.seqc (s.data.toList.drop i)
  rw [List.length_drop, size_toList] at hrl
  have hr1 : 1 ≤ Jsn.run Jsn.seqc (s.data.toList.drop i) := by rw [drop_at s i hi, Jsn.run_cons, if_pos hsq]; omega
  have hm1 : i < m := by omega
  have hm2 : m ≤ s.size := by omega
  have hVm : V = if Jsn.numeric s[i] then (if Jsn.numeral (s.extract i m).data.toList then .ok 3 (m - i) (s.extract i m).data.toList else .bad 12 0) else if Jsn.word (s.extract i m).data.toList then .ok 4 (m - i) (s.extract i m).data.toList else .bad 4 0 := by
    rw [hV]
    unfold Jsn.sequence
    rw [head_at s i hi, sub_list, show m - i = Jsn.run Jsn.seqc (s.data.toList.drop i) by omega]
  have HV := Lib.hid hVm
  have HM := Lib.hid hm
  have hgw := hB.lt
  have hB0 : LxB w g s i tv nv 0 a := hB
  obtain ⟨-, c1, -, -, -, -⟩ := hB.cells
  clear hV hm hrl hr1 hVm hsq hB
  go_enter Tryd.func41, Tryd.ntmps41
  go_wp2_with fail
  clear c1
  go_loopg [] (s.size - i) (fun gg wr => ∃ q : Nat, q + gg = s.size ∧ i ≤ q ∧ Hid (m = q + Jsn.run Jsn.seqc (s.data.toList.drop q)) ∧ LxB wr g s q tv nv 0 a ∧ Upd g w wr)
  case atStart => exact ⟨i, by omega, Nat.le_refl _, HM, hB0, Upd.refl _ _⟩
  case round =>
    clear HM hB0
    obtain ⟨q, hq, hiq, HM, hL, hU⟩ := hrel
    obtain ⟨d0, d1, -, -, -, -⟩ := hL.cells
    have hrq := Jsn.run_le Jsn.seqc (s.data.toList.drop q)
    rw [List.length_drop, size_toList] at hrq
    have hqm0 : q ≤ m := by have := HM.out; omega
    have hqe : q ≤ s.size := by omega
    obtain ⟨bb, hbb⟩ : ∃ b, b = decide (q < m) := ⟨_, rfl⟩
    have hbq : ∀ h : q < s.size, Jsn.seqc s[q] = bb := fun h => by
      have hM := HM.out
      rw [drop_at s q h, Jsn.run_cons] at hM
      rw [hbb]
      cases h2 : Jsn.seqc s[q] with
      | true => rw [h2, if_pos rfl] at hM; exact (decide_eq_true (by omega)).symm
      | false => rw [h2, if_neg (by decide)] at hM; exact (decide_eq_false (by omega)).symm
    have HBQ := Lib.hid hbq
    have HBB := Lib.hid hbb
    have hbz : ¬ q < s.size → bb = false := fun h => by rw [hbb]; exact decide_eq_false (by omega)
    have HBZ := Lib.hid hbz
    clear hbq hbb hbz hrq
    go_upto_region 1 with fail
    go_cut [44] from 11 to 44 (fun b wx => b = .bool bb ∧ LxB wx g s q tv nv 0 a ∧ Upd g w wx)
    case first =>
      by_cases hqs : q < s.size
      · have b0 : decide ((q : Int) < (s.size : Int)) = true := decide_eq_true (by omega)
        have b1 : (q : Int) < (s.size : Int) := by omega
        have b2 : 0 ≤ (q : Int) := by omega
        have HL1 := fun w => lletter_any s[q] w
        have HN1 := fun w => lnumeric_any s[q] w
        have hbb2 := HBQ.out hqs
        clear HBQ HBB HBZ HM
        rcases seqc_split s[q] with ⟨hl1, hl2⟩ | ⟨hl1, hl2⟩
        · obtain rfl : bb = true := by rw [← hbb2, hl2]
          rw [hl1] at HL1
          have HL1 := Lib.hid HL1
          have HN1 := Lib.hid HN1
          clear hl1 hl2 hbb2
          go_wp2_with fail
          go_quiet (first | (go_at_call 39; exact Calls.quiet_of_same ((HL1.out _).mono fun _ _ h => ⟨h.1, h.2.symm⟩)) | (go_at_call 40; exact Calls.quiet_of_same ((HN1.out _).mono fun _ _ h => ⟨h.1, h.2.symm⟩)))
          go_wp2_with fail
          go_meet
          case rel => exact ⟨rfl, hL, hU.trans (Upd.of (below_drewN _ _) (Nat.le_of_lt hL.lt))⟩
        · rw [hbb2] at hl2
          rw [hl1] at HL1
          rw [← hl2] at HN1
          have HL1 := Lib.hid HL1
          have HN1 := Lib.hid HN1
          clear hl1 hl2 hbb2
          go_wp2_with fail
          go_quiet (first | (go_at_call 39; exact Calls.quiet_of_same ((HL1.out _).mono fun _ _ h => ⟨h.1, h.2.symm⟩)) | (go_at_call 40; exact Calls.quiet_of_same ((HN1.out _).mono fun _ _ h => ⟨h.1, h.2.symm⟩)))
          go_wp2_with fail
          go_meet
          case rel => exact ⟨rfl, hL, hU.trans (Upd.of (below_drewN _ _) (Nat.le_of_lt hL.lt))⟩
      · obtain rfl : bb = false := HBZ.out hqs
        have b0 : decide ((q : Int) < (s.size : Int)) = false := decide_eq_false (by omega)
        clear HBQ HBB HBZ HM
        go_wp2_with fail
        go_quiet (fail)
        go_wp2_with fail
        go_meet
        case rel => exact ⟨rfl, hL, hU.trans (Upd.of (below_drewN _ _) (Nat.le_of_lt hL.lt))⟩
    case rest =>
      obtain ⟨rfl, hL3, hU3⟩ := hcut
      clear hL hU d0 d1 HBZ
      cases bb with
      | true =>
        have hqm : q < m := of_decide_eq_true HBB.out.symm
        have hqs : q < s.size := by omega
        have HM2 : Hid (m = q + 1 + Jsn.run Jsn.seqc (s.data.toList.drop (q + 1))) := Lib.hid (by
          have hM := HM.out
          rw [drop_at s q hqs, Jsn.run_cons, HBQ.out hqs, if_pos rfl] at hM
          omega)
        clear HM HBQ HBB
        obtain ⟨-, d1, -, -, -, -⟩ := hL3.cells
        have d6 := hL3.free 1
        go_wp2_with fail
        go_roundg (s.size - (q + 1))
        case measure => omega
        case rel => exact ⟨q + 1, by omega, by omega, HM2, hL3.setI (q + 1) _ (by omega), hU3.cell 1 _⟩
      | false =>
        have hqm : q = m := by have := of_decide_eq_false HBB.out.symm; omega
        subst hqm
        clear HM HBQ HBB
        obtain ⟨d0, d1, -, -, -, -⟩ := hL3.cells
        have b1 : (i : Int) ≤ (q : Int) := by omega
        have b2 : (q : Int) ≤ (s.size : Int) := by omega
        have b3 : 0 ≤ (i : Int) := by omega
        have b4 : 0 ≤ (q : Int) := by omega
        go_wp2_with fail
        go_quiet (fail)
        have hL5 : LxB (wc.drewN nq) g s q tv nv 0 a := hL3
        have hU5 : Upd g w (wc.drewN nq) := hU3.trans (Upd.of (below_drewN _ _) (Nat.le_of_lt hL3.lt))
        generalize wc.drewN nq = w5 at *
        obtain ⟨hz0, h0⟩ := sub_first hm1 hm2
        have hzs : (s.extract i q).size ≤ 65536 := by rw [ByteArray.size_extract]; omega
        have hzi : (0 : Int) < ((s.extract i q).size : Int) := by omega
        have HN2 := fun w => lnumeric_any s[i] w
        have HH := Lib.hid h0
        generalize s.extract i q = sub at *
        have hx : sub[0] = s[i] := h0
        have HN3 : Hid (∀ w1, Calls Tryd.prog 40 #[.int .u8 (sub[0].toNat : Int)] w1 fun e w' => e = .returned (.bool (Jsn.numeric s[i])) ∧ w1 = w') := Lib.hid (by rw [hx]; exact HN2)
        have hVo := HV.out
        have HNu : Hid (∀ w1, Calls Tryd.prog 16 #[.string sub] w1 (RetNm w1 (Jsn.numeral sub.data.toList))) := Lib.hid (fun w1 => rnumeral_any sub w1 hzs)
        clear HV HH HN2 h0 hx hL3 hU3 d0 d1
        obtain ⟨d0, d1, -, -, -, -⟩ := hL5.cells
        generalize Jsn.numeric s[i] = nb at *
        cases nb with
        | true =>
          generalize Jsn.numeral sub.data.toList = nm at *
          cases nm with
          | true =>
            have hVv : V = .ok 3 (q - i) sub.data.toList := hVo
            clear hVo
            go_upto_region 12 with (first | (go_at_call 40; with_reducible refine (HN3.out _).mono ?_; rintro e w9 ⟨rfl, rfl⟩) | (go_at_call 16; refine (HNu.out _).mono ?_; rintro e w6 ⟨⟨nn, vv, y, rfl, hv1⟩, hb6⟩; have hBn : Blk (w6.alloc (.cells #[.bool false, .slice none 0 0, .int .i64 0] 46)) w6.heap.size 46 #[.bool false, .slice none 0 0, .int .i64 0] := Blk.new _ _ _; have hb7 : Below w5.heap.size w5 ((w6.alloc (.cells #[.bool false, .slice none 0 0, .int .i64 0] 46)).setRow w6.heap.size #[.bool nn, vv, .int .i64 y]) := setRow_below (hb6.alloc hb6.size _) hb6.size _; have hL7 := hL5.keep hb7; have hU7 := hU5.trans (Upd.of hb7 (Nat.le_of_lt hL5.lt))) | ((with_reducible refine wpList_store_three rfl 46 (.tmp 5) (.tmp 68) rfl rfl w6.heap.size (.bool false) (.slice none 0 0) (.int .i64 0) (.bool nn) vv (.int .i64 y) 46 rnumRow (one_bool _) hv1 (one_int _ _) ?_ ?_ hBn ?_); exact rfl; exact rfl))
            generalize (w6.alloc (.cells #[.bool false, .slice none 0 0, .int .i64 0] 46)).setRow w6.heap.size #[.bool nn, vv, .int .i64 y] = w7 at *
            obtain ⟨-, y1, y2, -, -, -⟩ := hL7.cells
            have y7 := hL7.free 2
            obtain ⟨-, -, y2a, -, -, -⟩ := (hL7.keep (below_alloc (.cells #[.int .i64 3, .int .i64 (i : Int), .int .i64 (q : Int), .string sub] 61))).cells
            have hOT5 := own_upd hOT (Nat.lt_succ_self g) hU7
            have hON5 := own_upd hON (Nat.lt_succ_self g) hU7
            have hlt5 := hL7.lt
            go_region_law ((refine step_push_row rfl (.tmp 92) (.tmp 101) 28 rfl 61 _ 4 40 rtRowE (g + 1) tv T.length (T.flatMap tokCells) w7.heap.size 1 [.int .i64 3, .int .i64 (i : Int), .int .i64 (q : Int), .string sub] ?_ ?_ ?_ ?_ ?_ ?_ ?_ ?_ ?_ ?_ ?_); exact rfl; exact rfl; (first | exact OwnR.keep hOT5 (((Below.refl _ w7).drew).alloc (Nat.le_refl _) _) | exact OwnR.keep hOT5 (((Below.refl _ w7).alloc (Nat.le_refl _) _).drew)); exact rfl; (first | exact new_cells w7.drew _ _ | exact new_cells w7 _ _); (intro u hu; simp only [List.mem_cons, List.not_mem_nil, or_false] at hu; rcases hu with rfl | rfl | rfl | rfl <;> rfl); exact (fun h => by cases h); omega; omega; (have h9 : g < w7.heap.size := hlt5; show _ ≤ (w7.drew.alloc _).heap.size; simp only [World.size_alloc]; show _ ≤ w7.heap.size + 1; omega); intro v' w16 hown6 hgr6 hb6; obtain ⟨ao6, n6, cap6, rfl⟩ := own_slc hown6; have hL6 : LxB w16 g s q tv nv 0 a := (by first | exact Blk.below (Blk.alloc (w := w7.drew) hL7 _) hb6 (Nat.lt_succ_self g) | exact Blk.below (Blk.alloc hL7 _) hb6 (Nat.lt_succ_self g)); have hB6 : Below g w w16 := (by first | exact (hU7.1.drew.alloc (Nat.le_of_lt hlt5) _).trans (hb6.mono (Nat.le_succ g)) | exact (hU7.1.alloc (Nat.le_of_lt hlt5) _).drew.trans (hb6.mono (Nat.le_succ g))); have hON6 : OwnNote w16 (g + 1) nv N := (by first | exact ownsRow_grown (OwnR.keep hON5 (((Below.refl _ w7).drew).alloc (Nat.le_refl _) _)) (OwnR.keep hOT5 (((Below.refl _ w7).drew).alloc (Nat.le_refl _) _)) (by decide) hgr6 | exact ownsRow_grown (OwnR.keep hON5 (((Below.refl _ w7).alloc (Nat.le_refl _) _).drew)) (OwnR.keep hOT5 (((Below.refl _ w7).alloc (Nat.le_refl _) _).drew)) (by decide) hgr6); obtain ⟨-, -, e2, -, -, -⟩ := hL6.cells; have e7 := hL6.free 2; clear hgr6 hb6)
            all_goals
              go_wp2
              refine bodyPost_end (results_none rfl _ _ _) rfl ?_
              subst hVv
              refine ⟨rfl, ?_, hB6.setCell (Nat.le_refl _) _⟩
              show LxOk _ g s (i + (q - i)) (T ++ [⟨3, i, i + (q - i), sub.data.toList⟩]) N a
              rw [show i + (q - i) = q by omega]
              exact ⟨_, nv, hL6.setT _, own_set (OwnRT.snoc (t := ⟨3, i, q, sub.data.toList⟩) hown6) _ _ (Nat.lt_succ_self g), own_set hON6 _ _ (Nat.lt_succ_self g)⟩
          | false =>
            have hVv : V = .bad 12 0 := hVo
            have HFL := Lib.hid (fun w1 (h1 : LxB w1 g s q tv nv 0 a) => lfail_any g s q tv nv 0 a 12 (i : Int) w1 h1)
            clear hVo
            go_upto_region 12 with (first | (go_at_call 40; with_reducible refine (HN3.out _).mono ?_; rintro e w9 ⟨rfl, rfl⟩) | (go_at_call 16; refine (HNu.out _).mono ?_; rintro e w6 ⟨⟨nn, vv, y, rfl, hv1⟩, hb6⟩; have hBn : Blk (w6.alloc (.cells #[.bool false, .slice none 0 0, .int .i64 0] 46)) w6.heap.size 46 #[.bool false, .slice none 0 0, .int .i64 0] := Blk.new _ _ _; have hb7 : Below w5.heap.size w5 ((w6.alloc (.cells #[.bool false, .slice none 0 0, .int .i64 0] 46)).setRow w6.heap.size #[.bool nn, vv, .int .i64 y]) := setRow_below (hb6.alloc hb6.size _) hb6.size _; have hL7 := hL5.keep hb7; have hU7 := hU5.trans (Upd.of hb7 (Nat.le_of_lt hL5.lt))) | ((with_reducible refine wpList_store_three rfl 46 (.tmp 5) (.tmp 68) rfl rfl w6.heap.size (.bool false) (.slice none 0 0) (.int .i64 0) (.bool nn) vv (.int .i64 y) 46 rnumRow (one_bool _) hv1 (one_int _ _) ?_ ?_ hBn ?_); exact rfl; exact rfl) | (go_at_call 42; with_reducible refine (HFL.out _ hL7).mono ?_; rintro e w8 ⟨rfl, hL8, hU8⟩))
            have hU9 := hU7.trans hU8
            obtain ⟨-, y1, y2, -, -, -⟩ := hL8.cells
            have y7 := hL8.free 2
            obtain ⟨-, -, y2a, -, -, -⟩ := (hL8.keep (below_alloc (.cells #[.int .i64 3, .int .i64 (i : Int), .int .i64 (q : Int), .string sub] 61))).cells
            have hOT5 := own_upd hOT (Nat.lt_succ_self g) hU9
            have hON5 := own_upd hON (Nat.lt_succ_self g) hU9
            have hlt5 := hL8.lt
            go_region_law ((refine step_push_row rfl (.tmp 92) (.tmp 101) 28 rfl 61 _ 4 40 rtRowE (g + 1) tv T.length (T.flatMap tokCells) w8.heap.size 1 [.int .i64 3, .int .i64 (i : Int), .int .i64 (q : Int), .string sub] ?_ ?_ ?_ ?_ ?_ ?_ ?_ ?_ ?_ ?_ ?_); exact rfl; exact rfl; (first | exact OwnR.keep hOT5 (((Below.refl _ w8).drew).alloc (Nat.le_refl _) _) | exact OwnR.keep hOT5 (((Below.refl _ w8).alloc (Nat.le_refl _) _).drew)); exact rfl; (first | exact new_cells w8.drew _ _ | exact new_cells w8 _ _); (intro u hu; simp only [List.mem_cons, List.not_mem_nil, or_false] at hu; rcases hu with rfl | rfl | rfl | rfl <;> rfl); exact (fun h => by cases h); omega; omega; (have h9 : g < w8.heap.size := hlt5; show _ ≤ (w8.drew.alloc _).heap.size; simp only [World.size_alloc]; show _ ≤ w8.heap.size + 1; omega); intro v' w16 hown6 hgr6 hb6; obtain ⟨ao6, n6, cap6, rfl⟩ := own_slc hown6; have hL6 : LxB w16 g s q tv nv 12 (i : Int) := (by first | exact Blk.below (Blk.alloc (w := w8.drew) hL8 _) hb6 (Nat.lt_succ_self g) | exact Blk.below (Blk.alloc hL8 _) hb6 (Nat.lt_succ_self g)); have hB6 : Below g w w16 := (by first | exact (hU9.1.drew.alloc (Nat.le_of_lt hlt5) _).trans (hb6.mono (Nat.le_succ g)) | exact (hU9.1.alloc (Nat.le_of_lt hlt5) _).drew.trans (hb6.mono (Nat.le_succ g))); have hON6 : OwnNote w16 (g + 1) nv N := (by first | exact ownsRow_grown (OwnR.keep hON5 (((Below.refl _ w8).drew).alloc (Nat.le_refl _) _)) (OwnR.keep hOT5 (((Below.refl _ w8).drew).alloc (Nat.le_refl _) _)) (by decide) hgr6 | exact ownsRow_grown (OwnR.keep hON5 (((Below.refl _ w8).alloc (Nat.le_refl _) _).drew)) (OwnR.keep hOT5 (((Below.refl _ w8).alloc (Nat.le_refl _) _).drew)) (by decide) hgr6); obtain ⟨-, -, e2, -, -, -⟩ := hL6.cells; have e7 := hL6.free 2; clear hgr6 hb6)
            all_goals
              go_wp2
              refine bodyPost_end (results_none rfl _ _ _) rfl ?_
              subst hVv
              exact ⟨rfl, ⟨q, _, nv, hL6.setT _⟩, hB6.setCell (Nat.le_refl _) _⟩
        | false =>
          clear HNu
          rcases word_cases sub with ⟨c1, cw⟩ | ⟨c1, c2, cw⟩ | ⟨c1, c2, c3, cw⟩ | ⟨c1, c2, c3, cw⟩
          · rw [cw] at hVo
            have hVv : V = .ok 4 (q - i) sub.data.toList := hVo
            have e1 : (!(sub.toList == [116, 114, 117, 101])) = false := by rw [c1]; rfl
            clear hVo cw
            go_upto_region 12 with (go_at_call 40; with_reducible refine (HN3.out _).mono ?_; rintro e w9 ⟨rfl, rfl⟩)
            obtain ⟨-, y1, y2, -, -, -⟩ := hL5.cells
            have y7 := hL5.free 2
            obtain ⟨-, -, y2a, -, -, -⟩ := (hL5.keep (below_alloc (.cells #[.int .i64 4, .int .i64 (i : Int), .int .i64 (q : Int), .string sub] 61))).cells
            have hOT5 := own_upd hOT (Nat.lt_succ_self g) hU5
            have hON5 := own_upd hON (Nat.lt_succ_self g) hU5
            have hlt5 := hL5.lt
            go_region_law ((refine step_push_row rfl (.tmp 92) (.tmp 101) 28 rfl 61 _ 4 40 rtRowE (g + 1) tv T.length (T.flatMap tokCells) w5.heap.size 1 [.int .i64 4, .int .i64 (i : Int), .int .i64 (q : Int), .string sub] ?_ ?_ ?_ ?_ ?_ ?_ ?_ ?_ ?_ ?_ ?_); exact rfl; exact rfl; (first | exact OwnR.keep hOT5 (((Below.refl _ w5).drew).alloc (Nat.le_refl _) _) | exact OwnR.keep hOT5 (((Below.refl _ w5).alloc (Nat.le_refl _) _).drew)); exact rfl; (first | exact new_cells w5.drew _ _ | exact new_cells w5 _ _); (intro u hu; simp only [List.mem_cons, List.not_mem_nil, or_false] at hu; rcases hu with rfl | rfl | rfl | rfl <;> rfl); exact (fun h => by cases h); omega; omega; (have h9 : g < w5.heap.size := hlt5; show _ ≤ (w5.drew.alloc _).heap.size; simp only [World.size_alloc]; show _ ≤ w5.heap.size + 1; omega); intro v' w16 hown6 hgr6 hb6; obtain ⟨ao6, n6, cap6, rfl⟩ := own_slc hown6; have hL6 : LxB w16 g s q tv nv 0 a := (by first | exact Blk.below (Blk.alloc (w := w5.drew) hL5 _) hb6 (Nat.lt_succ_self g) | exact Blk.below (Blk.alloc hL5 _) hb6 (Nat.lt_succ_self g)); have hB6 : Below g w w16 := (by first | exact (hU5.1.drew.alloc (Nat.le_of_lt hlt5) _).trans (hb6.mono (Nat.le_succ g)) | exact (hU5.1.alloc (Nat.le_of_lt hlt5) _).drew.trans (hb6.mono (Nat.le_succ g))); have hON6 : OwnNote w16 (g + 1) nv N := (by first | exact ownsRow_grown (OwnR.keep hON5 (((Below.refl _ w5).drew).alloc (Nat.le_refl _) _)) (OwnR.keep hOT5 (((Below.refl _ w5).drew).alloc (Nat.le_refl _) _)) (by decide) hgr6 | exact ownsRow_grown (OwnR.keep hON5 (((Below.refl _ w5).alloc (Nat.le_refl _) _).drew)) (OwnR.keep hOT5 (((Below.refl _ w5).alloc (Nat.le_refl _) _).drew)) (by decide) hgr6); obtain ⟨-, -, e2, -, -, -⟩ := hL6.cells; have e7 := hL6.free 2; clear hgr6 hb6)
            all_goals
              go_wp2
              refine bodyPost_end (results_none rfl _ _ _) rfl ?_
              subst hVv
              refine ⟨rfl, ?_, hB6.setCell (Nat.le_refl _) _⟩
              show LxOk _ g s (i + (q - i)) (T ++ [⟨4, i, i + (q - i), sub.data.toList⟩]) N a
              rw [show i + (q - i) = q by omega]
              exact ⟨_, nv, hL6.setT _, own_set (OwnRT.snoc (t := ⟨4, i, q, sub.data.toList⟩) hown6) _ _ (Nat.lt_succ_self g), own_set hON6 _ _ (Nat.lt_succ_self g)⟩
          · rw [cw] at hVo
            have hVv : V = .ok 4 (q - i) sub.data.toList := hVo
            have e1 : (!(sub.toList == [116, 114, 117, 101])) = true := by rw [c1]; rfl
            have e3 : (!(sub.toList == [102, 97, 108, 115, 101])) = false := by rw [c2]; rfl
            clear hVo cw
            go_upto_region 12 with (go_at_call 40; with_reducible refine (HN3.out _).mono ?_; rintro e w9 ⟨rfl, rfl⟩)
            obtain ⟨-, y1, y2, -, -, -⟩ := hL5.cells
            have y7 := hL5.free 2
            obtain ⟨-, -, y2a, -, -, -⟩ := (hL5.keep (below_alloc (.cells #[.int .i64 4, .int .i64 (i : Int), .int .i64 (q : Int), .string sub] 61))).cells
            have hOT5 := own_upd hOT (Nat.lt_succ_self g) hU5
            have hON5 := own_upd hON (Nat.lt_succ_self g) hU5
            have hlt5 := hL5.lt
            go_region_law ((refine step_push_row rfl (.tmp 92) (.tmp 101) 28 rfl 61 _ 4 40 rtRowE (g + 1) tv T.length (T.flatMap tokCells) w5.heap.size 1 [.int .i64 4, .int .i64 (i : Int), .int .i64 (q : Int), .string sub] ?_ ?_ ?_ ?_ ?_ ?_ ?_ ?_ ?_ ?_ ?_); exact rfl; exact rfl; (first | exact OwnR.keep hOT5 (((Below.refl _ w5).drew).alloc (Nat.le_refl _) _) | exact OwnR.keep hOT5 (((Below.refl _ w5).alloc (Nat.le_refl _) _).drew)); exact rfl; (first | exact new_cells w5.drew _ _ | exact new_cells w5 _ _); (intro u hu; simp only [List.mem_cons, List.not_mem_nil, or_false] at hu; rcases hu with rfl | rfl | rfl | rfl <;> rfl); exact (fun h => by cases h); omega; omega; (have h9 : g < w5.heap.size := hlt5; show _ ≤ (w5.drew.alloc _).heap.size; simp only [World.size_alloc]; show _ ≤ w5.heap.size + 1; omega); intro v' w16 hown6 hgr6 hb6; obtain ⟨ao6, n6, cap6, rfl⟩ := own_slc hown6; have hL6 : LxB w16 g s q tv nv 0 a := (by first | exact Blk.below (Blk.alloc (w := w5.drew) hL5 _) hb6 (Nat.lt_succ_self g) | exact Blk.below (Blk.alloc hL5 _) hb6 (Nat.lt_succ_self g)); have hB6 : Below g w w16 := (by first | exact (hU5.1.drew.alloc (Nat.le_of_lt hlt5) _).trans (hb6.mono (Nat.le_succ g)) | exact (hU5.1.alloc (Nat.le_of_lt hlt5) _).drew.trans (hb6.mono (Nat.le_succ g))); have hON6 : OwnNote w16 (g + 1) nv N := (by first | exact ownsRow_grown (OwnR.keep hON5 (((Below.refl _ w5).drew).alloc (Nat.le_refl _) _)) (OwnR.keep hOT5 (((Below.refl _ w5).drew).alloc (Nat.le_refl _) _)) (by decide) hgr6 | exact ownsRow_grown (OwnR.keep hON5 (((Below.refl _ w5).alloc (Nat.le_refl _) _).drew)) (OwnR.keep hOT5 (((Below.refl _ w5).alloc (Nat.le_refl _) _).drew)) (by decide) hgr6); obtain ⟨-, -, e2, -, -, -⟩ := hL6.cells; have e7 := hL6.free 2; clear hgr6 hb6)
            all_goals
              go_wp2
              refine bodyPost_end (results_none rfl _ _ _) rfl ?_
              subst hVv
              refine ⟨rfl, ?_, hB6.setCell (Nat.le_refl _) _⟩
              show LxOk _ g s (i + (q - i)) (T ++ [⟨4, i, i + (q - i), sub.data.toList⟩]) N a
              rw [show i + (q - i) = q by omega]
              exact ⟨_, nv, hL6.setT _, own_set (OwnRT.snoc (t := ⟨4, i, q, sub.data.toList⟩) hown6) _ _ (Nat.lt_succ_self g), own_set hON6 _ _ (Nat.lt_succ_self g)⟩
          · rw [cw] at hVo
            have hVv : V = .ok 4 (q - i) sub.data.toList := hVo
            have e1 : (!(sub.toList == [116, 114, 117, 101])) = true := by rw [c1]; rfl
            have e3 : (!(sub.toList == [102, 97, 108, 115, 101])) = true := by rw [c2]; rfl
            have e4 : (!(sub.toList == [110, 117, 108, 108])) = false := by rw [c3]; rfl
            clear hVo cw
            go_upto_region 12 with (go_at_call 40; with_reducible refine (HN3.out _).mono ?_; rintro e w9 ⟨rfl, rfl⟩)
            obtain ⟨-, y1, y2, -, -, -⟩ := hL5.cells
            have y7 := hL5.free 2
            obtain ⟨-, -, y2a, -, -, -⟩ := (hL5.keep (below_alloc (.cells #[.int .i64 4, .int .i64 (i : Int), .int .i64 (q : Int), .string sub] 61))).cells
            have hOT5 := own_upd hOT (Nat.lt_succ_self g) hU5
            have hON5 := own_upd hON (Nat.lt_succ_self g) hU5
            have hlt5 := hL5.lt
            go_region_law ((refine step_push_row rfl (.tmp 92) (.tmp 101) 28 rfl 61 _ 4 40 rtRowE (g + 1) tv T.length (T.flatMap tokCells) w5.heap.size 1 [.int .i64 4, .int .i64 (i : Int), .int .i64 (q : Int), .string sub] ?_ ?_ ?_ ?_ ?_ ?_ ?_ ?_ ?_ ?_ ?_); exact rfl; exact rfl; (first | exact OwnR.keep hOT5 (((Below.refl _ w5).drew).alloc (Nat.le_refl _) _) | exact OwnR.keep hOT5 (((Below.refl _ w5).alloc (Nat.le_refl _) _).drew)); exact rfl; (first | exact new_cells w5.drew _ _ | exact new_cells w5 _ _); (intro u hu; simp only [List.mem_cons, List.not_mem_nil, or_false] at hu; rcases hu with rfl | rfl | rfl | rfl <;> rfl); exact (fun h => by cases h); omega; omega; (have h9 : g < w5.heap.size := hlt5; show _ ≤ (w5.drew.alloc _).heap.size; simp only [World.size_alloc]; show _ ≤ w5.heap.size + 1; omega); intro v' w16 hown6 hgr6 hb6; obtain ⟨ao6, n6, cap6, rfl⟩ := own_slc hown6; have hL6 : LxB w16 g s q tv nv 0 a := (by first | exact Blk.below (Blk.alloc (w := w5.drew) hL5 _) hb6 (Nat.lt_succ_self g) | exact Blk.below (Blk.alloc hL5 _) hb6 (Nat.lt_succ_self g)); have hB6 : Below g w w16 := (by first | exact (hU5.1.drew.alloc (Nat.le_of_lt hlt5) _).trans (hb6.mono (Nat.le_succ g)) | exact (hU5.1.alloc (Nat.le_of_lt hlt5) _).drew.trans (hb6.mono (Nat.le_succ g))); have hON6 : OwnNote w16 (g + 1) nv N := (by first | exact ownsRow_grown (OwnR.keep hON5 (((Below.refl _ w5).drew).alloc (Nat.le_refl _) _)) (OwnR.keep hOT5 (((Below.refl _ w5).drew).alloc (Nat.le_refl _) _)) (by decide) hgr6 | exact ownsRow_grown (OwnR.keep hON5 (((Below.refl _ w5).alloc (Nat.le_refl _) _).drew)) (OwnR.keep hOT5 (((Below.refl _ w5).alloc (Nat.le_refl _) _).drew)) (by decide) hgr6); obtain ⟨-, -, e2, -, -, -⟩ := hL6.cells; have e7 := hL6.free 2; clear hgr6 hb6)
            all_goals
              go_wp2
              refine bodyPost_end (results_none rfl _ _ _) rfl ?_
              subst hVv
              refine ⟨rfl, ?_, hB6.setCell (Nat.le_refl _) _⟩
              show LxOk _ g s (i + (q - i)) (T ++ [⟨4, i, i + (q - i), sub.data.toList⟩]) N a
              rw [show i + (q - i) = q by omega]
              exact ⟨_, nv, hL6.setT _, own_set (OwnRT.snoc (t := ⟨4, i, q, sub.data.toList⟩) hown6) _ _ (Nat.lt_succ_self g), own_set hON6 _ _ (Nat.lt_succ_self g)⟩
          · rw [cw] at hVo
            have hVv : V = .bad 4 0 := hVo
            have HFL := Lib.hid (fun w1 (h1 : LxB w1 g s q tv nv 0 a) => lfail_any g s q tv nv 0 a 4 (i : Int) w1 h1)
            have e1 : (!(sub.toList == [116, 114, 117, 101])) = true := by rw [c1]; rfl
            have e3 : (!(sub.toList == [102, 97, 108, 115, 101])) = true := by rw [c2]; rfl
            have e4 : (!(sub.toList == [110, 117, 108, 108])) = true := by rw [c3]; rfl
            clear hVo cw
            go_upto_region 12 with (first | (go_at_call 40; with_reducible refine (HN3.out _).mono ?_; rintro e w9 ⟨rfl, rfl⟩) | (go_at_call 42; with_reducible refine (HFL.out _ hL5).mono ?_; rintro e w8 ⟨rfl, hL8, hU8⟩))
            have hU9 := hU5.trans hU8
            obtain ⟨-, y1, y2, -, -, -⟩ := hL8.cells
            have y7 := hL8.free 2
            obtain ⟨-, -, y2a, -, -, -⟩ := (hL8.keep (below_alloc (.cells #[.int .i64 4, .int .i64 (i : Int), .int .i64 (q : Int), .string sub] 61))).cells
            have hOT5 := own_upd hOT (Nat.lt_succ_self g) hU9
            have hON5 := own_upd hON (Nat.lt_succ_self g) hU9
            have hlt5 := hL8.lt
            go_region_law ((refine step_push_row rfl (.tmp 92) (.tmp 101) 28 rfl 61 _ 4 40 rtRowE (g + 1) tv T.length (T.flatMap tokCells) w8.heap.size 1 [.int .i64 4, .int .i64 (i : Int), .int .i64 (q : Int), .string sub] ?_ ?_ ?_ ?_ ?_ ?_ ?_ ?_ ?_ ?_ ?_); exact rfl; exact rfl; (first | exact OwnR.keep hOT5 (((Below.refl _ w8).drew).alloc (Nat.le_refl _) _) | exact OwnR.keep hOT5 (((Below.refl _ w8).alloc (Nat.le_refl _) _).drew)); exact rfl; (first | exact new_cells w8.drew _ _ | exact new_cells w8 _ _); (intro u hu; simp only [List.mem_cons, List.not_mem_nil, or_false] at hu; rcases hu with rfl | rfl | rfl | rfl <;> rfl); exact (fun h => by cases h); omega; omega; (have h9 : g < w8.heap.size := hlt5; show _ ≤ (w8.drew.alloc _).heap.size; simp only [World.size_alloc]; show _ ≤ w8.heap.size + 1; omega); intro v' w16 hown6 hgr6 hb6; obtain ⟨ao6, n6, cap6, rfl⟩ := own_slc hown6; have hL6 : LxB w16 g s q tv nv 4 (i : Int) := (by first | exact Blk.below (Blk.alloc (w := w8.drew) hL8 _) hb6 (Nat.lt_succ_self g) | exact Blk.below (Blk.alloc hL8 _) hb6 (Nat.lt_succ_self g)); have hB6 : Below g w w16 := (by first | exact (hU9.1.drew.alloc (Nat.le_of_lt hlt5) _).trans (hb6.mono (Nat.le_succ g)) | exact (hU9.1.alloc (Nat.le_of_lt hlt5) _).drew.trans (hb6.mono (Nat.le_succ g))); have hON6 : OwnNote w16 (g + 1) nv N := (by first | exact ownsRow_grown (OwnR.keep hON5 (((Below.refl _ w8).drew).alloc (Nat.le_refl _) _)) (OwnR.keep hOT5 (((Below.refl _ w8).drew).alloc (Nat.le_refl _) _)) (by decide) hgr6 | exact ownsRow_grown (OwnR.keep hON5 (((Below.refl _ w8).alloc (Nat.le_refl _) _).drew)) (OwnR.keep hOT5 (((Below.refl _ w8).alloc (Nat.le_refl _) _).drew)) (by decide) hgr6); obtain ⟨-, -, e2, -, -, -⟩ := hL6.cells; have e7 := hL6.free 2; clear hgr6 hb6)
            all_goals
              go_wp2
              refine bodyPost_end (results_none rfl _ _ _) rfl ?_
              subst hVv
              exact ⟨rfl, ⟨q, _, nv, hL6.setT _⟩, hB6.setCell (Nat.le_refl _) _⟩
end Go.Proofs.YtjfkiomegacpeaaDoor
