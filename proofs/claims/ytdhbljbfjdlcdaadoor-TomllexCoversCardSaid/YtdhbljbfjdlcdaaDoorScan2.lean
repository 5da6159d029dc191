/-
  tomllex.Scan at sound UTF-8.
-/
import Derived.Test.YtdhbljbfjdlcdaaDoorScan
namespace Go.Proofs.YtdhbljbfjdlcdaaDoor
open Go.RowKit
set_option maxRecDepth 100000 in
set_option maxHeartbeats 8000000 in
theorem scan_good (s : ByteArray) (w : World) (hs : s.size ≤ 65536) (hT : Lib.Utf8Tabs (Tryd.lays197_ren.g 3) (Tryd.lays197_ren.g 4) w) (h : chk (s.size + 1) 0 s.data.toList = none) :
    Calls Tryd.prog 9 #[.string s] w (RetS w (Tom.scan s.data.toList)) := by
  have HK := Lib.hid (check_good s w hs hT h)
  obtain ⟨C, hC⟩ : ∃ C, C = Tom.scan s.data.toList := ⟨_, rfl⟩
  rw [← hC]
  have HC0 : Hid (C = Tom.scanLoop (s.size + 1) 0 [] [] (s.data.toList.drop 0)) := Lib.hid (by rw [hC, ← size_toList]; rfl)
  clear hT h hC
  go_enter Tryd.func9, Tryd.ntmps9
  go_wp2_with (go_at_call 17; refine HK.out.mono ?_; rintro e w0 ⟨rfl, hb0⟩)
  generalize decide ((65536 : Int) < (s.size : Int)) = b17
  go_loopg [8, 9, 10] s.size (fun g tv nv i wr => ∃ (p f : Nat) (ts : List Tom.T) (ns : List Tom.Note) (tw nw : Value), p + g = s.size ∧ tw = tv ∧ nw = nv ∧ i = .int .i64 p ∧ s.size - p < f ∧ ts.length ≤ p ∧ ns.length ≤ p ∧ Hid (C = Tom.scanLoop f p ts ns (s.data.toList.drop p)) ∧ OwnTok wr w.heap.size tw ts ∧ OwnNote wr w.heap.size nw ns ∧ Below w.heap.size w wr)
  case atStart =>
    exact ⟨0, s.size + 1, [], [], _, _, by omega, rfl, rfl, rfl, by omega, by simp, by simp, HC0, World.ownsRow_nil _ _ _ _, World.ownsRow_nil _ _ _ _, hb0⟩
  case round =>
    clear HC0 HK
    obtain ⟨p, f, ts, ns, tw, nw, hg, rfl, rfl, rfl, hf, ht, hn, HC, hot, hon, hbel⟩ := hrel
    have hbs := hbel.size
    by_cases hlt : p < s.size
    · obtain ⟨f, rfl⟩ : ∃ f', f = f' + 1 := ⟨f - 1, by omega⟩
      have e0 : s.data.toList.drop p = s[p] :: s.data.toList.drop (p + 1) := List.drop_eq_getElem_cons (by rw [size_toList]; exact hlt)
      have HS := Lib.hid (HC.out.trans (scan_round f p ts ns _ _ e0))
      have HR := Lib.hid (fun w => run_blank_from s p w (by omega))
      have hrn : Tom.run Tom.blank (s.data.toList.drop p) ≤ s.size - p := by
        have := Tom.run_le Tom.blank (s.data.toList.drop p)
        rwa [List.length_drop, size_toList] at this
      clear HC
      generalize Tom.run Tom.blank (s.data.toList.drop p) = rn at *
      by_cases hr0 : 0 < rn
      · have hr1 : (0 : Int) < (rn : Int) := by omega
        have HS2 := Lib.hid (HS.out.trans (if_pos hr0))
        clear HS hr0 e0
        go_wp2_with (go_at_call 18; refine (HR.out _).mono ?_; rintro e w3 ⟨rfl, rfl⟩)
        go_roundg (s.size - (p + rn))
        case measure => omega
        case rel => exact ⟨p + rn, f, ts, ns, _, _, by omega, rfl, rfl, by go_num, by omega, by omega, by omega, HS2, hot, hon, hbel⟩
      · obtain rfl : rn = 0 := by omega
        have HS2 := Lib.hid (HS.out.trans (if_neg (Nat.lt_irrefl 0)))
        clear HS hr0
        by_cases h35 : s[p] = 35
        · have h4 : ((s[p].toNat : Int) = 35) := by rw [h35]; rfl
          have h5 : (s[p] == 35) = true := by rw [h35]; rfl
          have HS3 := Lib.hid (HS2.out.trans (if_pos h5))
          clear HS2 h5
          have hE0 := Lib.hid e0
          clear e0
          go_wp2_with (go_at_call 18; refine (HR.out _).mono ?_; rintro e w3 ⟨rfl, rfl⟩)
          obtain ⟨⟨m, okb⟩, hmo⟩ : ∃ x, x = Tom.cmt (s.data.toList.drop p) := ⟨_, rfl⟩
          have hS3 := HS3.out
          rw [← hmo] at hS3
          have hS3 : C = if okb then Tom.scanLoop f (p + m) ts (ns ++ [⟨p, p + m, (s.data.toList.drop p).take m⟩]) (s.data.toList.drop (p + m)) else .bad (p + m) := hS3
          have HS3 := Lib.hid hS3
          clear hS3
          have hm1 : 1 ≤ m := by
            have := cmt_hash (s.data.toList.drop (p + 1))
            rw [← h35, ← hE0.out, ← hmo] at this
            exact this
          have hm2 : m ≤ s.size - p := by
            have := Tom.cmt_le (s.data.toList.drop p)
            rw [← hmo, List.length_drop, size_toList] at this
            exact this
          have HM0 : Hid (p + m = p + (Tom.cmt (s.data.toList.drop p)).1 ∧ okb = (Tom.cmt (s.data.toList.drop p)).2) := Lib.hid (by rw [← hmo]; exact ⟨rfl, rfl⟩)
          have H4 := Lib.hid h4
          clear hmo hE0 h35 h4 HR
          go_loop [12] (fun i => ∃ j : Nat, p ≤ j ∧ j ≤ s.size ∧ i = .int .i64 j ∧ Hid (p + m = j + (Tom.cmt (s.data.toList.drop j)).1 ∧ okb = (Tom.cmt (s.data.toList.drop j)).2)) (fun i => s.size - (intOf i).toNat)
          case atStart => exact ⟨p, by omega, by omega, rfl, HM0⟩
          case round =>
            clear HM0
            obtain ⟨j, hpj, hjs, rfl, HM⟩ := hrel
            have HL := Lib.hid (fun w => lineEnd_from s j w)
            by_cases hj : j < s.size ∧ Tom.lineEnd (s.data.toList.drop j) = 0
            · obtain ⟨hj1, hj2⟩ := hj
              have e1 : s.data.toList.drop j = s[j] :: s.data.toList.drop (j + 1) := List.drop_eq_getElem_cons (by rw [size_toList]; exact hj1)
              have hc := cmt_round j s.data.toList _ e1
              rw [hj2, if_neg (Nat.lt_irrefl 0)] at hc
              rw [hj2] at HL
              have hM := HM.out
              rw [hc] at hM
              have HK := fun w => control_any s[j] w
              cases hct : Tom.control s[j] with
              | true =>
                rw [hct] at HK hM
                have HS4 : Hid (C = .bad j) := Lib.hid (HS3.out.trans (by rw [hM.2, hM.1]; rfl))
                have HK := Lib.hid HK
                clear hM hc e1 hct hj2 HS3 HM
                go_wp2_with (first
                  | (go_at_call 20; refine (HL.out _).mono ?_; rintro e w3 ⟨rfl, rfl⟩)
                  | (go_at_call 21; refine (HK.out _).mono ?_; rintro e w3 ⟨rfl, rfl⟩))
                refine bodyPost_ret (v := .tuple #[.slice none 0 0, .slice none 0 0, .int .i64 (j : Int), .int .i64 4]) (by simp [results, Tryd.results9, go_sem]) rfl ?_
                rw [HS4.out]
                exact RetS_bad rfl hbel
              | false =>
                rw [hct] at HK hM
                have HM2 : Hid (p + m = (j + 1) + (Tom.cmt (s.data.toList.drop (j + 1))).1 ∧ okb = (Tom.cmt (s.data.toList.drop (j + 1))).2) := Lib.hid ⟨by have := hM.1; simp only [Bool.false_eq_true, if_false] at this; omega, hM.2⟩
                have HK := Lib.hid HK
                clear hM hc e1 hct hj2 HM
                go_wp2_with (first
                  | (go_at_call 20; refine (HL.out _).mono ?_; rintro e w3 ⟨rfl, rfl⟩)
                  | (go_at_call 21; refine (HK.out _).mono ?_; rintro e w3 ⟨rfl, rfl⟩))
                go_round
                case rel => exact ⟨j + 1, by omega, by omega, by go_num, HM2⟩
                case measure => simp [intOf]; omega
            · have hM : p + m = j ∧ okb = true := by
                have h := HM.out
                by_cases hj1 : j < s.size
                · have e1 : s.data.toList.drop j = s[j] :: s.data.toList.drop (j + 1) := List.drop_eq_getElem_cons (by rw [size_toList]; exact hj1)
                  have hc := cmt_round j s.data.toList _ e1
                  rw [if_pos (by omega)] at hc
                  rw [hc] at h
                  exact ⟨h.1, h.2⟩
                · rw [List.drop_of_length_le (by rw [size_toList]; omega)] at h
                  exact ⟨h.1, h.2⟩
              have HS4 : Hid (C = Tom.scanLoop f (p + m) ts (ns ++ [⟨p, p + m, (s.data.toList.drop p).take m⟩]) (s.data.toList.drop (p + m))) := Lib.hid (HS3.out.trans (by rw [hM.2]; rfl))
              obtain ⟨hM1, _⟩ := hM
              have hE : [Value.int .i64 (p : Int), .int .i64 (j : Int), .string (s.extract p j)] = noteCells ⟨p, p + m, (s.data.toList.drop p).take m⟩ := by
                subst hM1
                unfold noteCells
                rw [← ext_part]
              have HE := Lib.hid hE
              have HJ := Lib.hid hM1
              have hjm : j ≤ p + m := by omega
              have hjm2 : p + m ≤ j := by omega
              clear hE hM1 HS3 HM
              by_cases hj1 : j < s.size
              · have hle0 : 0 < Tom.lineEnd (s.data.toList.drop j) := by omega
                generalize Tom.lineEnd (s.data.toList.drop j) = le at *
                have hle1 : ((le : Int) == 0) = false := by rw [beq_eq_false_iff_ne]; omega
                clear hj
                go_wp2_with (first
                  | (go_at_call 20; refine (HL.out _).mono ?_; rintro e w3 ⟨rfl, rfl⟩)
                  | ((with_reducible refine wpList_append_one rfl (.tmp 63) (.tmp 71) 24 rfl 39 _ 3 32 noteRowE w.heap.size _ ns.length (ns.flatMap noteCells) wr.heap.size 1 [.int .i64 (p : Int), .int .i64 (j : Int), .string (s.extract p j)] ?_ ?_ (hon.keep (below_alloc _)) ?_ ?_ (note3_ok _ _ _) ?_ ?_ ?_ ?_); exact rfl; exact rfl; exact rfl; exact new_cells wr [.int .i64 (p : Int), .int .i64 (j : Int), .string (s.extract p j)] _; omega; omega; exact Nat.le_trans hbs (below_alloc _).size))
                intro v' w4 hown4 hgr4 hb4
                have hot4 := ownsRow_grown (hot.keep (below_alloc _)) (hon.keep (below_alloc _)) (by decide) hgr4
                go_wp2
                go_roundg (s.size - (p + m))
                case measure => omega
                case rel => exact ⟨p + m, f, ts, ns ++ [⟨p, p + m, (s.data.toList.drop p).take m⟩], _, _, by omega, rfl, rfl, by rw [HJ.out], by omega, by omega, by simp; omega, HS4, hot4, OwnNote.snoc (HE.out ▸ hown4), (hbel.alloc hbs _).trans hb4⟩
              · clear hj HL
                go_wp2_with (first
                  | ((with_reducible refine wpList_append_one rfl (.tmp 63) (.tmp 71) 24 rfl 39 _ 3 32 noteRowE w.heap.size _ ns.length (ns.flatMap noteCells) wr.heap.size 1 [.int .i64 (p : Int), .int .i64 (j : Int), .string (s.extract p j)] ?_ ?_ (hon.keep (below_alloc _)) ?_ ?_ (note3_ok _ _ _) ?_ ?_ ?_ ?_); exact rfl; exact rfl; exact rfl; exact new_cells wr [.int .i64 (p : Int), .int .i64 (j : Int), .string (s.extract p j)] _; omega; omega; exact Nat.le_trans hbs (below_alloc _).size))
                intro v' w4 hown4 hgr4 hb4
                have hot4 := ownsRow_grown (hot.keep (below_alloc _)) (hon.keep (below_alloc _)) (by decide) hgr4
                go_wp2
                go_roundg (s.size - (p + m))
                case measure => omega
                case rel => exact ⟨p + m, f, ts, ns ++ [⟨p, p + m, (s.data.toList.drop p).take m⟩], _, _, by omega, rfl, rfl, by rw [HJ.out], by omega, by omega, by simp; omega, HS4, hot4, OwnNote.snoc (HE.out ▸ hown4), (hbel.alloc hbs _).trans hb4⟩
        · have h4 : ((s[p].toNat : Int) == 35) = false := byte_ne 35 h35
          have h5 : (s[p] == 35) = false := beq_eq_false_iff_ne.2 h35
          have HS3 := Lib.hid (HS2.out.trans (if_neg (by rw [h5]; decide)))
          have HT := Lib.hid (fun w => token_from s p w hlt (by omega))
          have htb := Tom.token_bd (s.data.toList.drop p)
          rw [List.length_drop, size_toList] at htb
          clear HS2 h5 e0 h35
          have htx := Tom.token_bad (s.data.toList.drop p)
          rw [List.length_drop, size_toList] at htx
          generalize Tom.token (s.data.toList.drop p) = tk at *
          cases tk with
          | bad n =>
            have HT : Hid (∀ w : World, Calls Tryd.prog 22 #[.string (s.extract p s.size)] w fun e w' => ∃ (k m : Int) (t : ByteArray), e = .returned (.tuple #[.agg #[.int .i64 k, .int .i64 0, .int .i64 m, .string t], .int .i64 (n : Int)]) ∧ Below w.heap.size w w') := Lib.hid (fun w => HT.out w)
            have HS4 : Hid (C = .bad (p + n)) := Lib.hid HS3.out
            have hn1 := htx n rfl
            clear HS3 htb htx
            go_wp2_with (first
              | (go_at_call 18; refine (HR.out _).mono ?_; rintro e w3 ⟨rfl, rfl⟩)
              | (go_at_call 22; refine (HT.out _).mono ?_; rintro e w3 ⟨k, m, t, rfl, hb3⟩))
            refine bodyPost_ret (v := .tuple #[.slice none 0 0, .slice none 0 0, .int .i64 ((p : Int) + n), .int .i64 4]) (by simp [results, Tryd.results9, go_sem]) rfl ?_
            rw [HS4.out]
            exact RetS_bad (by omega) ((hbel.trans (hb3.mono hbs)).alloc (Nat.le_trans hbs hb3.size) _)
          | ok k n t =>
            have HT : Hid (∀ w : World, Calls Tryd.prog 22 #[.string (s.extract p s.size)] w fun e w' => e = .returned (.tuple #[.agg #[.int .i64 (k : Int), .int .i64 0, .int .i64 (n : Int), .string ⟨t.toArray⟩], .int .i64 (-1)]) ∧ Below w.heap.size w w') := Lib.hid (fun w => HT.out w)
            have HS4 : Hid (C = Tom.scanLoop f (p + n) (ts ++ [⟨k, p, p + n, t⟩]) ns (s.data.toList.drop (p + n))) := Lib.hid HS3.out
            obtain ⟨hn1, hn2, hn3, _, _⟩ := htb t k n rfl
            clear HS3 htb htx
            go_wp2_with (first
              | (go_at_call 18; refine (HR.out _).mono ?_; rintro e w3 ⟨rfl, rfl⟩)
              | (go_at_call 22; refine (HT.out _).mono ?_; rintro e w3 ⟨rfl, hb3⟩)
              | ((with_reducible refine wpList_append_one rfl (.tmp 93) (.tmp 95) 23 rfl 30 _ 4 40 tokRowE w.heap.size _ ts.length (ts.flatMap tokCells) (w3.heap.size + 1) 1 (tokCells ⟨k, p, p + n, t⟩) ?_ ?_ (hot.keep (below_two hb3 hb3.size _ _)) ?_ ?_ (tok_ok _) ?_ ?_ ?_ ?_); exact rfl; exact rfl; exact rfl; exact new_cells2 w3 _ (tokCells ⟨k, p, p + n, t⟩) _; omega; omega; exact Nat.le_trans hbs (below_two hb3 hb3.size _ _).size))
            intro v' w4 hown4 hgr4 hb4
            have hB : Blk ((w3.alloc (.cells #[.int .i64 (k : Int), .int .i64 (p : Int), .int .i64 ((p : Int) + (n : Int)), .string ⟨t.toArray⟩] 30)).alloc (.cells #[.int .i64 (k : Int), .int .i64 (p : Int), .int .i64 ((p : Int) + (n : Int)), .string ⟨t.toArray⟩] 30)) w3.heap.size 30 #[.int .i64 (k : Int), .int .i64 (p : Int), .int .i64 ((p : Int) + (n : Int)), .string ⟨t.toArray⟩] := (Blk.new _ _ _).alloc _
            have hB4 := hB.grown hgr4 (fun q hq => by have := (World.ownsRow.lt hot q hq).2; have := hb3.size; omega)
            have hon4 := ownsRow_grown (hon.keep (below_two hb3 hb3.size _ _)) (hot.keep (below_two hb3 hb3.size _ _)) (by decide) hgr4
            have c2 : w4.cell? ⟨w3.heap.size, 2, none⟩ = some (.int .i64 ((p : Int) + (n : Int))) := hB4.at_ 2
            clear hB hB4 hgr4
            go_wp2
            go_roundg (s.size - (p + n))
            case measure => omega
            case rel => exact ⟨p + n, f, ts ++ [⟨k, p, p + n, t⟩], ns, v', _, by omega, rfl, rfl, by go_num, by omega, by simp; omega, by omega, HS4, OwnTok.snoc hown4, hon4, (below_two (hbel.trans (hb3.mono hbs)) (Nat.le_trans hbs hb3.size) _ _).trans hb4⟩
    · have HC9 : Hid (C = .ok (ts ++ [⟨8, p, p, []⟩]) ns) := Lib.hid (HC.out.trans (by rw [List.drop_of_length_le (by rw [size_toList]; omega)]; match f with | 0 => rfl | _ + 1 => rfl))
      clear HC
      go_wp2_with ((with_reducible refine wpList_append_one rfl (.tmp 99) (.tmp 103) 23 rfl 30 _ 4 40 tokRowE w.heap.size _ ts.length (ts.flatMap tokCells) wr.heap.size 1 (tokCells ⟨8, p, p, []⟩) ?_ ?_ (hot.keep (below_alloc _)) ?_ ?_ (tok_ok _) ?_ ?_ ?_ ?_); exact rfl; exact rfl; exact rfl; exact new_cells wr (tokCells ⟨8, p, p, []⟩) _; omega; omega; exact Nat.le_trans hbs (below_alloc _).size)
      intro v' w4 hown4 hgr4 hb4
      have hon4 := ownsRow_grown (hon.keep (below_alloc _)) (hot.keep (below_alloc _)) (by decide) hgr4
      go_wp2
      refine bodyPost_ret (v := .tuple #[v', nw, .int .i64 0, .int .i64 0]) (by simp [results, Tryd.results9, go_sem]) rfl ?_
      rw [HC9.out]
      exact RetS_ok (OwnTok.snoc hown4) hon4 ((hbel.alloc hbs _).trans hb4)
end Go.Proofs.YtdhbljbfjdlcdaaDoor
