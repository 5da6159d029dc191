/-
  The reference's Scan by its contract.
-/
import Derived.Test.YtdhbljbfjdlcdaaDoorRefO
import Derived.Test.YtdhbljbfjdlcdaaDoorTom7
import Derived.Test.YtdhbljbfjdlcdaaDoorScan2
namespace Go.Proofs.YtdhbljbfjdlcdaaDoor
open Go.RowKit
def OwnRTok (w : World) (base : Nat) (v : Value) (ts : List Tom.T) : Prop := w.ownsRow base 47 4 v ts.length (ts.flatMap tokCells)
theorem rtokRowE : ElemRow Tryd.prog 33 47 (.agg #[.int .i64 0, .int .i64 0, .int .i64 0, .string ⟨#[]⟩]) 4 40 := ⟨Tryd.underlying33, by kernel_rfl, rfl, by decide⟩
theorem OwnRTok.keep {w w' : World} {base : Nat} {v : Value} {ts : List Tom.T} (h : OwnRTok w base v ts) (hb : Below w.heap.size w w') : w'.ownsRow base 47 4 v ts.length (ts.flatMap tokCells) := OwnR.keep h hb
theorem OwnRTok.snoc {w : World} {base : Nat} {v : Value} {ts : List Tom.T} {t : Tom.T} (h : w.ownsRow base 47 4 v (ts.length + 1) (ts.flatMap tokCells ++ tokCells t)) : OwnRTok w base v (ts ++ [t]) := by
  unfold OwnRTok
  rw [List.length_append, List.flatMap_append]
  simpa using h
def RetRS (w : World) : Tom.Res → Go.Ending → World → Prop
  | .ok ts ns, e, w' => (∃ tv nv, e = .returned (.tuple #[tv, nv, .int .i64 0, .int .i64 0]) ∧ OwnRTok w' w.heap.size tv ts ∧ OwnNote w' w.heap.size nv ns) ∧ Below w.heap.size w w'
  | .bad n, e, w' => e = .returned (.tuple #[.slice none 0 0, .slice none 0 0, .int .i64 (n : Int), .int .i64 4]) ∧ Below w.heap.size w w'
theorem RetRS_bad {w w' : World} {n : Nat} {v : Int} (h : v = n) (hb : Below w.heap.size w w') : RetRS w (.bad n) (.returned (.tuple #[.slice none 0 0, .slice none 0 0, .int .i64 v, .int .i64 4])) w' := by
  subst h; exact ⟨rfl, hb⟩
theorem RetRS_ok {w w' : World} {ts : List Tom.T} {ns : List Tom.Note} {tv nv : Value} (h1 : OwnRTok w' w.heap.size tv ts) (h2 : OwnNote w' w.heap.size nv ns) (hb : Below w.heap.size w w') : RetRS w (.ok ts ns) (.returned (.tuple #[tv, nv, .int .i64 0, .int .i64 0])) w' :=
  ⟨⟨tv, nv, rfl, h1, h2⟩, hb⟩
set_option maxRecDepth 100000 in
set_option maxHeartbeats 4000000 in
theorem rscan_text (s : ByteArray) (w : World) (hs : s.size ≤ 65536) (p : Nat) (h : chk (s.size + 1) 0 s.data.toList = some p) :
    Calls Tryd.prog 10 #[.string s] w fun e w' => e = .returned (.tuple #[.slice none 0 0, .slice none 0 0, .int .i64 p, .int .i64 11]) ∧ Below w.heap.size w w' := by
  have HC := decode_any s w (by omega)
  rw [h] at HC
  have HC : Hid (Calls Tryd.prog 23 #[.string s] w fun e w' => (∃ v : Value, e = .returned (.tuple #[v, .int .i64 p])) ∧ Below w.heap.size w w') := Lib.hid HC
  clear h
  go_enter Tryd.func10, Tryd.ntmps10
  go_wp2_with (go_at_call 23; refine HC.out.mono ?_; rintro e w3 ⟨⟨v, rfl⟩, hb3⟩)
  refine bodyPost_ret (v := .tuple #[.slice none 0 0, .slice none 0 0, .int .i64 p, .int .i64 11]) (by simp [results, Tryd.results10, go_sem]) rfl ⟨rfl, hb3⟩
set_option maxRecDepth 100000 in
set_option maxHeartbeats 8000000 in
theorem rscan_good (s : ByteArray) (w : World) (hs : s.size ≤ 65536) (h : chk (s.size + 1) 0 s.data.toList = none) :
    Calls Tryd.prog 10 #[.string s] w (RetRS w (Tom.scan s.data.toList)) := by
  have HK := decode_any s w (by omega)
  rw [h] at HK
  have HK : Hid (Calls Tryd.prog 23 #[.string s] w fun e w' => (∃ v : Value, e = .returned (.tuple #[v, .int .i64 (-1)])) ∧ Below w.heap.size w w') := Lib.hid HK
  obtain ⟨C, hC⟩ : ∃ C, C = Tom.scan s.data.toList := ⟨_, rfl⟩
  rw [← hC]
  have HC0 : Hid (C = (Tom.scan (s.data.toList.drop 0)).app 0 [] []) := Lib.hid (by rw [hC]; exact Tom.scan_app0 _)
  clear h hC
  go_enter Tryd.func10, Tryd.ntmps10
  go_wp2_with (go_at_call 23; refine HK.out.mono ?_; rintro e w0 ⟨⟨v0, rfl⟩, hb0⟩)
  generalize decide ((65536 : Int) < (s.size : Int)) = b16
  go_loopg [8, 9, 10] s.size (fun g tv nv i wr => ∃ (p : Nat) (ts : List Tom.T) (ns : List Tom.Note) (tw nw : Value), p + g = s.size ∧ tw = tv ∧ nw = nv ∧ i = .int .i64 p ∧ ts.length ≤ p ∧ ns.length ≤ p ∧ Hid (C = (Tom.scan (s.data.toList.drop p)).app p ts ns) ∧ OwnRTok wr w.heap.size tw ts ∧ OwnNote wr w.heap.size nw ns ∧ Below w.heap.size w wr)
  case atStart =>
    exact ⟨0, [], [], _, _, by omega, rfl, rfl, rfl, by simp, by simp, HC0, World.ownsRow_nil _ _ _ _, World.ownsRow_nil _ _ _ _, hb0⟩
  case round =>
    clear HC0 HK
    obtain ⟨p, ts, ns, tw, nw, hg, rfl, rfl, rfl, ht, hn, HC, hot, hon, hbel⟩ := hrel
    have hbs := hbel.size
    by_cases hlt : p < s.size
    · have e0 : s.data.toList.drop p = s[p] :: s.data.toList.drop (p + 1) := List.drop_eq_getElem_cons (by rw [size_toList]; exact hlt)
      rcases blank_cases s[p] with ⟨hb, h32⟩ | ⟨hb, h9, h32⟩ | ⟨hb, h32, h9⟩
      · have HS := Lib.hid (HC.out.trans (Tom.scan_at_blank p ts ns _ _ e0 hb))
        clear HC e0 hb
        go_wp2
        go_roundg (s.size - (p + 1))
        case measure => omega
        case rel => exact ⟨p + 1, ts, ns, _, _, by omega, rfl, rfl, by go_num, by omega, by omega, HS, hot, hon, hbel⟩
      · have HS := Lib.hid (HC.out.trans (Tom.scan_at_blank p ts ns _ _ e0 hb))
        clear HC e0 hb
        go_wp2
        go_roundg (s.size - (p + 1))
        case measure => omega
        case rel => exact ⟨p + 1, ts, ns, _, _, by omega, rfl, rfl, by go_num, by omega, by omega, HS, hot, hon, hbel⟩
      · by_cases h35 : s[p] = 35
        · have h4 : ((s[p].toNat : Int) = 35) := by rw [h35]; rfl
          rw [h35] at e0
          obtain ⟨⟨m, okb⟩, hmo⟩ : ∃ x, x = Tom.cmt (s.data.toList.drop p) := ⟨_, rfl⟩
          have HS3 : Hid (C = if okb then (Tom.scan (s.data.toList.drop (p + m))).app (p + m) ts (ns ++ [⟨p, p + m, (s.data.toList.drop p).take m⟩]) else .bad (p + m)) := Lib.hid (HC.out.trans (by
            cases okb with
            | true => exact Tom.scan_at_note p m ts ns _ e0 hmo.symm
            | false => exact Tom.scan_at_notebad p m ts ns _ e0 hmo.symm))
          have hm1 : 1 ≤ m := by
            have := cmt_hash (s.data.toList.drop (p + 1))
            rw [← e0, ← hmo] at this
            exact this
          have hm2 : m ≤ s.size - p := by
            have := Tom.cmt_le (s.data.toList.drop p)
            rw [← hmo, List.length_drop, size_toList] at this
            exact this
          have HM0 : Hid (p + m = p + (Tom.cmt (s.data.toList.drop p)).1 ∧ okb = (Tom.cmt (s.data.toList.drop p)).2) := Lib.hid (by rw [← hmo]; exact ⟨rfl, rfl⟩)
          clear hmo e0 h35 HC hb
          go_wp2
          generalize (s[p].toNat : Int) = i44 at *
          clear h4 h32 h9
          go_loop [11] (fun i => ∃ j : Nat, p ≤ j ∧ j ≤ s.size ∧ i = .int .i64 j ∧ Hid (p + m = j + (Tom.cmt (s.data.toList.drop j)).1 ∧ okb = (Tom.cmt (s.data.toList.drop j)).2)) (fun i => s.size - (intOf i).toNat)
          case atStart => exact ⟨p, by omega, by omega, rfl, HM0⟩
          case round =>
            clear HM0
            obtain ⟨j, hpj, hjs, rfl, HM⟩ := hrel
            have HL := Lib.hid (fun w => rlineEnd_any s j w (by omega) (by omega))
            by_cases hj : j < s.size ∧ Tom.lineEnd (s.data.toList.drop j) = 0
            · obtain ⟨hj1, hj2⟩ := hj
              have e1 : s.data.toList.drop j = s[j] :: s.data.toList.drop (j + 1) := List.drop_eq_getElem_cons (by rw [size_toList]; exact hj1)
              have hc := cmt_round j s.data.toList _ e1
              rw [hj2, if_neg (Nat.lt_irrefl 0)] at hc
              rw [hj2] at HL
              have hM := HM.out
              rw [hc] at hM
              have HK := fun w => rcontrol_any s[j] w
              cases hct : Tom.control s[j] with
              | true =>
                rw [hct] at HK hM
                have HS4 : Hid (C = .bad j) := Lib.hid (HS3.out.trans (by rw [hM.2, hM.1]; rfl))
                have HK := Lib.hid HK
                clear hM hc e1 hct hj2 HS3 HM
                go_wp2_with (first
                  | (go_at_call 24; refine (HL.out _).mono ?_; rintro e w3 ⟨rfl, rfl⟩)
                  | (go_at_call 25; refine (HK.out _).mono ?_; rintro e w3 ⟨rfl, rfl⟩))
                refine bodyPost_ret (v := .tuple #[.slice none 0 0, .slice none 0 0, .int .i64 (j : Int), .int .i64 4]) (by simp [results, Tryd.results10, go_sem]) rfl ?_
                rw [HS4.out]
                exact RetRS_bad rfl hbel
              | false =>
                rw [hct] at HK hM
                have HM2 : Hid (p + m = (j + 1) + (Tom.cmt (s.data.toList.drop (j + 1))).1 ∧ okb = (Tom.cmt (s.data.toList.drop (j + 1))).2) := Lib.hid ⟨by have := hM.1; simp only [Bool.false_eq_true, if_false] at this; omega, hM.2⟩
                have HK := Lib.hid HK
                clear hM hc e1 hct hj2 HM
                go_wp2_with (first
                  | (go_at_call 24; refine (HL.out _).mono ?_; rintro e w3 ⟨rfl, rfl⟩)
                  | (go_at_call 25; refine (HK.out _).mono ?_; rintro e w3 ⟨rfl, rfl⟩))
                go_round
                case rel => exact ⟨j + 1, by omega, by omega, by go_num, HM2⟩
                case measure => simp [intOf]; omega
            · have hM : p + m = j ∧ okb = true := by
                have h := HM.out
                by_cases hj1 : j < s.size
                · have e1 : s.data.toList.drop j = s[j] :: s.data.toList.drop (j + 1) := List.drop_eq_getElem_cons (by rw [size_toList]; exact hj1)
                  have hc := cmt_round j s.data.toList _ e1
                  rw [if_pos (by omega)] at hc
                  rw [hc] at h
                  exact ⟨h.1, h.2⟩
                · rw [List.drop_of_length_le (by rw [size_toList]; omega)] at h
                  exact ⟨h.1, h.2⟩
              have HS4 : Hid (C = (Tom.scan (s.data.toList.drop (p + m))).app (p + m) ts (ns ++ [⟨p, p + m, (s.data.toList.drop p).take m⟩])) := Lib.hid (HS3.out.trans (by rw [hM.2]; rfl))
              obtain ⟨hM1, _⟩ := hM
              have hE : [Value.int .i64 (p : Int), .int .i64 (j : Int), .string (s.extract p j)] = noteCells ⟨p, p + m, (s.data.toList.drop p).take m⟩ := by
                subst hM1
                unfold noteCells
                rw [← ext_part]
              have HE := Lib.hid hE
              have HJ := Lib.hid hM1
              have hjm : j ≤ p + m := by omega
              have hjm2 : p + m ≤ j := by omega
              clear hE hM1 HS3 HM
              by_cases hj1 : j < s.size
              · have hle0 : 0 < Tom.lineEnd (s.data.toList.drop j) := by omega
                generalize Tom.lineEnd (s.data.toList.drop j) = le at *
                have hle1 : ((le : Int) == 0) = false := by rw [beq_eq_false_iff_ne]; omega
                clear hj
                go_wp2_with (first
                  | (go_at_call 24; refine (HL.out _).mono ?_; rintro e w3 ⟨rfl, rfl⟩)
                  | ((with_reducible refine wpList_append_one rfl (.tmp 63) (.tmp 71) 24 rfl 39 _ 3 32 noteRowE w.heap.size _ ns.length (ns.flatMap noteCells) wr.heap.size 1 [.int .i64 (p : Int), .int .i64 (j : Int), .string (s.extract p j)] ?_ ?_ (hon.keep (below_alloc _)) ?_ ?_ (note3_ok _ _ _) ?_ ?_ ?_ ?_); exact rfl; exact rfl; exact rfl; exact new_cells wr [.int .i64 (p : Int), .int .i64 (j : Int), .string (s.extract p j)] _; omega; omega; exact Nat.le_trans hbs (below_alloc _).size))
                intro v' w4 hown4 hgr4 hb4
                have hot4 := ownsRow_grown (hot.keep (below_alloc _)) (hon.keep (below_alloc _)) (by decide) hgr4
                go_wp2
                go_roundg (s.size - (p + m))
                case measure => omega
                case rel => exact ⟨p + m, ts, ns ++ [⟨p, p + m, (s.data.toList.drop p).take m⟩], _, _, by omega, rfl, rfl, by rw [HJ.out], by omega, by simp; omega, HS4, hot4, OwnNote.snoc (HE.out ▸ hown4), (hbel.alloc hbs _).trans hb4⟩
              · clear hj HL
                go_wp2_with (first
                  | ((with_reducible refine wpList_append_one rfl (.tmp 63) (.tmp 71) 24 rfl 39 _ 3 32 noteRowE w.heap.size _ ns.length (ns.flatMap noteCells) wr.heap.size 1 [.int .i64 (p : Int), .int .i64 (j : Int), .string (s.extract p j)] ?_ ?_ (hon.keep (below_alloc _)) ?_ ?_ (note3_ok _ _ _) ?_ ?_ ?_ ?_); exact rfl; exact rfl; exact rfl; exact new_cells wr [.int .i64 (p : Int), .int .i64 (j : Int), .string (s.extract p j)] _; omega; omega; exact Nat.le_trans hbs (below_alloc _).size))
                intro v' w4 hown4 hgr4 hb4
                have hot4 := ownsRow_grown (hot.keep (below_alloc _)) (hon.keep (below_alloc _)) (by decide) hgr4
                go_wp2
                go_roundg (s.size - (p + m))
                case measure => omega
                case rel => exact ⟨p + m, ts, ns ++ [⟨p, p + m, (s.data.toList.drop p).take m⟩], _, _, by omega, rfl, rfl, by rw [HJ.out], by omega, by simp; omega, HS4, hot4, OwnNote.snoc (HE.out ▸ hown4), (hbel.alloc hbs _).trans hb4⟩
        · have h4 : ((s[p].toNat : Int) == 35) = false := byte_ne 35 h35
          have h5 : (s[p] == 35) = false := beq_eq_false_iff_ne.2 h35
          have HT := Lib.hid (fun w => one_any s p w hlt (by omega))
          have htb := Tom.token_bd (s.data.toList.drop p)
          rw [List.length_drop, size_toList] at htb
          have hst := fun k m t => Tom.scan_at_tok p k m t ts ns s.data.toList _ e0 hb h5
          have hsb := fun m => Tom.scan_at_bad p m ts ns s.data.toList _ e0 hb h5
          clear h5 e0 h35 hb
          have htx := Tom.token_bad (s.data.toList.drop p)
          rw [List.length_drop, size_toList] at htx
          generalize Tom.token (s.data.toList.drop p) = tk at *
          cases tk with
          | bad n =>
            have HT : Hid (∀ w : World, Calls Tryd.prog 26 #[.string s, .int .i64 p] w fun e w' => (∃ (k f m : Int) (t : ByteArray), e = .returned (.tuple #[.agg #[.int .i64 k, .int .i64 f, .int .i64 m, .string t], .int .i64 ((p + n : Nat) : Int)])) ∧ Below w.heap.size w w') := Lib.hid (fun w => HT.out w)
            have HS4 : Hid (C = .bad (p + n)) := Lib.hid (HC.out.trans (hsb n rfl))
            have hn1 := htx n rfl
            clear hst hsb htb htx HC
            go_wp2_with (go_at_call 26; refine (HT.out _).mono ?_; rintro e w3 ⟨⟨k, f, m, t, rfl⟩, hb3⟩)
            refine bodyPost_ret (v := .tuple #[.slice none 0 0, .slice none 0 0, .int .i64 ((p + n : Nat) : Int), .int .i64 4]) (by simp [results, Tryd.results10, go_sem]) rfl ?_
            rw [HS4.out]
            exact RetRS_bad (by omega) ((hbel.trans (hb3.mono hbs)).alloc (Nat.le_trans hbs hb3.size) _)
          | ok k n t =>
            have HT : Hid (∀ w : World, Calls Tryd.prog 26 #[.string s, .int .i64 p] w fun e w' => e = .returned (.tuple #[.agg #[.int .i64 (k : Int), .int .i64 (p : Int), .int .i64 ((p + n : Nat) : Int), .string ⟨t.toArray⟩], .int .i64 (-1)]) ∧ Below w.heap.size w w') := Lib.hid (fun w => HT.out w)
            have HS4 : Hid (C = (Tom.scan (s.data.toList.drop (p + n))).app (p + n) (ts ++ [⟨k, p, p + n, t⟩]) ns) := Lib.hid (HC.out.trans (hst k n t rfl))
            obtain ⟨hn1, hn2, hn3, _, _⟩ := htb t k n rfl
            clear hst hsb htb htx HC
            go_wp2_with (first
              | (go_at_call 26; refine (HT.out _).mono ?_; rintro e w3 ⟨rfl, hb3⟩)
              | ((with_reducible refine wpList_append_one rfl (.tmp 83) (.tmp 85) 33 rfl 47 _ 4 40 rtokRowE w.heap.size _ ts.length (ts.flatMap tokCells) (w3.heap.size + 1) 1 (tokCells ⟨k, p, p + n, t⟩) ?_ ?_ (hot.keep (below_two hb3 hb3.size _ _)) ?_ ?_ (tok_ok _) ?_ ?_ ?_ ?_); exact rfl; exact rfl; exact rfl; exact new_cells2 w3 _ (tokCells ⟨k, p, p + n, t⟩) _; omega; omega; exact Nat.le_trans hbs (below_two hb3 hb3.size _ _).size))
            intro v' w4 hown4 hgr4 hb4
            have hB : Blk ((w3.alloc (.cells #[.int .i64 (k : Int), .int .i64 (p : Int), .int .i64 ((p : Int) + (n : Int)), .string ⟨t.toArray⟩] 47)).alloc (.cells #[.int .i64 (k : Int), .int .i64 (p : Int), .int .i64 ((p : Int) + (n : Int)), .string ⟨t.toArray⟩] 47)) w3.heap.size 47 #[.int .i64 (k : Int), .int .i64 (p : Int), .int .i64 ((p : Int) + (n : Int)), .string ⟨t.toArray⟩] := (Blk.new _ _ _).alloc _
            have hB4 := hB.grown hgr4 (fun q hq => by have := (World.ownsRow.lt hot q hq).2; have := hb3.size; omega)
            have hon4 := ownsRow_grown (hon.keep (below_two hb3 hb3.size _ _)) (hot.keep (below_two hb3 hb3.size _ _)) (by decide) hgr4
            have c2 : w4.cell? ⟨w3.heap.size, 2, none⟩ = some (.int .i64 ((p : Int) + (n : Int))) := hB4.at_ 2
            clear hB hB4 hgr4
            go_wp2
            go_roundg (s.size - (p + n))
            case measure => omega
            case rel => exact ⟨p + n, ts ++ [⟨k, p, p + n, t⟩], ns, v', _, by omega, rfl, rfl, by go_num, by simp; omega, by omega, HS4, OwnRTok.snoc hown4, hon4, (below_two (hbel.trans (hb3.mono hbs)) (Nat.le_trans hbs hb3.size) _ _).trans hb4⟩
    · obtain rfl : p = s.size := by omega
      have HC9 : Hid (C = .ok (ts ++ [⟨8, s.size, s.size, []⟩]) ns) := Lib.hid (HC.out.trans (Tom.scan_at_end _ ts ns _ (List.drop_of_length_le (by rw [size_toList]; omega))))
      clear HC
      go_wp2_with ((with_reducible refine wpList_append_one rfl (.tmp 89) (.tmp 95) 33 rfl 47 _ 4 40 rtokRowE w.heap.size _ ts.length (ts.flatMap tokCells) wr.heap.size 1 (tokCells ⟨8, s.size, s.size, []⟩) ?_ ?_ (hot.keep (below_alloc _)) ?_ ?_ (tok_ok _) ?_ ?_ ?_ ?_); exact rfl; exact rfl; exact rfl; exact new_cells wr (tokCells ⟨8, s.size, s.size, []⟩) _; omega; omega; exact Nat.le_trans hbs (below_alloc _).size)
      intro v' w4 hown4 hgr4 hb4
      have hon4 := ownsRow_grown (hon.keep (below_alloc _)) (hot.keep (below_alloc _)) (by decide) hgr4
      go_wp2
      refine bodyPost_ret (v := .tuple #[v', nw, .int .i64 0, .int .i64 0]) (by simp [results, Tryd.results10, go_sem]) rfl ?_
      rw [HC9.out]
      exact RetRS_ok (OwnRTok.snoc hown4) hon4 ((hbel.alloc hbs _).trans hb4)
end Go.Proofs.YtdhbljbfjdlcdaaDoor
