/-
  jsonlex.Scan by its contract.
-/
import Derived.Test.YtjfkiomegacpeaaDoorJsK
import Derived.BigQuiet
namespace Go.Proofs.YtjfkiomegacpeaaDoor
open Go.RowKit
def tokCells (t : Jsn.T) : List Value := [.int .i64 (t.kind : Int), .int .i64 (t.frm : Int), .int .i64 (t.to : Int), .string ⟨t.text.toArray⟩]
def noteCells (t : Jsn.Note) : List Value := [.int .i64 (t.frm : Int), .int .i64 (t.to : Int), .string ⟨t.text.toArray⟩]
def OwnTok (w : World) (base : Nat) (v : Value) (ts : List Jsn.T) : Prop := w.ownsRow base 34 4 v ts.length (ts.flatMap tokCells)
def OwnNote (w : World) (base : Nat) (v : Value) (ns : List Jsn.Note) : Prop := w.ownsRow base 36 3 v ns.length (ns.flatMap noteCells)
theorem tokRowE : ElemRow Tryd.prog 23 34 (.agg #[.int .i64 0, .int .i64 0, .int .i64 0, .string ⟨#[]⟩]) 4 40 := ⟨Tryd.underlying23, by kernel_rfl, rfl, by decide⟩
theorem noteRowE : ElemRow Tryd.prog 24 36 (.agg #[.int .i64 0, .int .i64 0, .string ⟨#[]⟩]) 3 32 := ⟨Tryd.underlying24, by kernel_rfl, rfl, by decide⟩
def RetS (w : World) : Jsn.Res → Go.Ending → World → Prop
  | .ok ts ns, e, w' => (∃ tv nv, e = .returned (.tuple #[tv, nv, .int .i64 0, .int .i64 0]) ∧ OwnTok w' w.heap.size tv ts ∧ OwnNote w' w.heap.size nv ns) ∧ Below w.heap.size w w'
  | .bad c n, e, w' => e = .returned (.tuple #[.slice none 0 0, .slice none 0 0, .int .i64 (n : Int), .int .i64 (c : Int)]) ∧ Below w.heap.size w w'
theorem RetS_bad {w w' : World} {c n : Nat} {v x : Int} (h : v = n) (hx : x = c) (hb : Below w.heap.size w w') : RetS w (.bad c n) (.returned (.tuple #[.slice none 0 0, .slice none 0 0, .int .i64 v, .int .i64 x])) w' := by
  subst h hx; exact ⟨rfl, hb⟩
theorem check_text (s : ByteArray) (w : World) (hs : s.size ≤ 65536) (hT : Lib.Utf8Tabs (Tryd.lays197_ren.g 3) (Tryd.lays197_ren.g 4) w) (p : Nat) (h : chk (s.size + 1) 0 s.data.toList = some p) :
    Calls Tryd.prog 18 #[.string s] w fun e w' => e = .returned (.tuple #[.int .i64 p, .int .i64 11]) ∧ Below w.heap.size w w' := by
  have := check_any s w (by omega) hT
  rw [h] at this
  exact this
theorem check_good (s : ByteArray) (w : World) (hs : s.size ≤ 65536) (hT : Lib.Utf8Tabs (Tryd.lays197_ren.g 3) (Tryd.lays197_ren.g 4) w) (h : chk (s.size + 1) 0 s.data.toList = none) :
    Calls Tryd.prog 18 #[.string s] w fun e w' => e = .returned (.tuple #[.int .i64 (-1), .int .i64 0]) ∧ Below w.heap.size w w' := by
  have := check_any s w (by omega) hT
  rw [h] at this
  exact this
theorem OwnTok.keep {w w' : World} {base : Nat} {v : Value} {ts : List Jsn.T} (h : OwnTok w base v ts) (hb : Below w.heap.size w w') : w'.ownsRow base 34 4 v ts.length (ts.flatMap tokCells) := OwnR.keep h hb
theorem OwnNote.keep {w w' : World} {base : Nat} {v : Value} {ts : List Jsn.Note} (h : OwnNote w base v ts) (hb : Below w.heap.size w w') : w'.ownsRow base 36 3 v ts.length (ts.flatMap noteCells) := OwnR.keep h hb
theorem note3_ok (a b : Int) (x : ByteArray) : ∀ u ∈ [Value.int .i64 a, .int .i64 b, .string x], u.oneCell' = true := by
  intro u hu
  simp only [List.mem_cons, List.not_mem_nil, or_false] at hu
  rcases hu with rfl | rfl | rfl <;> rfl
theorem RetS_ok {w w' : World} {ts : List Jsn.T} {ns : List Jsn.Note} {tv nv : Value} (h1 : OwnTok w' w.heap.size tv ts) (h2 : OwnNote w' w.heap.size nv ns) (hb : Below w.heap.size w w') : RetS w (.ok ts ns) (.returned (.tuple #[tv, nv, .int .i64 0, .int .i64 0])) w' :=
  ⟨⟨tv, nv, rfl, h1, h2⟩, hb⟩
theorem tok_ok (t : Jsn.T) : ∀ u ∈ tokCells t, u.oneCell' = true := by
  intro u hu
  simp only [tokCells, List.mem_cons, List.not_mem_nil, or_false] at hu
  rcases hu with rfl | rfl | rfl | rfl <;> rfl
theorem note_ok (t : Jsn.Note) : ∀ u ∈ noteCells t, u.oneCell' = true := by
  intro u hu
  simp only [noteCells, List.mem_cons, List.not_mem_nil, or_false] at hu
  rcases hu with rfl | rfl | rfl <;> rfl
theorem OwnTok.snoc {w : World} {base : Nat} {v : Value} {ts : List Jsn.T} {t : Jsn.T} (h : w.ownsRow base 34 4 v (ts.length + 1) (ts.flatMap tokCells ++ tokCells t)) : OwnTok w base v (ts ++ [t]) := by
  unfold OwnTok
  rw [List.length_append, List.flatMap_append]
  simpa using h
theorem OwnNote.snoc {w : World} {base : Nat} {v : Value} {ts : List Jsn.Note} {t : Jsn.Note} (h : w.ownsRow base 36 3 v (ts.length + 1) (ts.flatMap noteCells ++ noteCells t)) : OwnNote w base v (ts ++ [t]) := by
  unfold OwnNote
  rw [List.length_append, List.flatMap_append]
  simpa using h
theorem snd_of_cut (l : List UInt8) (m : Nat) (h : Snd l) (hm : 1 ≤ m) (hc : Jsn.Cut l m) : Snd (l.drop m) := by
  rcases hc with ⟨c, h1, h2⟩ | h1 | ⟨r, h1⟩
  · have hlt := (List.getElem?_eq_some_iff.1 h1).1
    have he : l = l.take (m - 1) ++ c :: l.drop m := by
      have h3 := List.take_append_drop (m - 1) l
      have h4 : l.drop (m - 1) = c :: l.drop m := by
        rw [List.drop_eq_getElem_cons hlt, (List.getElem?_eq_some_iff.1 h1).2, show m - 1 + 1 = m by omega]
      rw [h4] at h3
      exact h3.symm
    rw [he] at h
    exact ((snd_app _ c _ h2).1 h).2
  · rw [h1]; exact snd_nil
  · have h3 := List.take_append_drop m l
    rw [h1] at h3
    rw [← h3] at h
    rw [h1]
    exact (snd_ascii 10 (by decide) r).2 ((snd_app _ 10 _ (by decide)).1 h).2
theorem token_from (s : ByteArray) (n : Nat) (w : World) (hn : n < s.size) (hs : s.size ≤ 65536) (hE : EnvJ w) (hS : Snd (s.data.toList.drop n)) :
    Calls Tryd.prog 21 #[.string (s.extract n s.size)] w (RetTk w (Jsn.token (s.data.toList.drop n))) := by
  have h := token_any (s.extract n s.size) w (by rw [ext_size]; omega) (by rw [ext_size]; omega) hE (by rw [Lib.extract_to_end]; exact hS)
  rwa [Lib.extract_to_end] at h
theorem comment_from (s : ByteArray) (n : Nat) (w : World) (hs : s.size ≤ 65536) (hE : EnvJ w) :
    Calls Tryd.prog 20 #[.string (s.extract n s.size)] w fun e w' => e = .returned (.int .i64 (cmtI (Jsn.comment (s.data.toList.drop n)))) ∧ w = w' := by
  obtain ⟨m, hm⟩ := hE.mx
  have h := comment_any (s.extract n s.size) w (by rw [ext_size]; omega) m hm
  rwa [Lib.extract_to_end] at h
set_option maxRecDepth 100000 in
set_option maxHeartbeats 4000000 in
theorem scan_text (s : ByteArray) (w : World) (hs : s.size ≤ 65536) (hT : Lib.Utf8Tabs (Tryd.lays197_ren.g 3) (Tryd.lays197_ren.g 4) w) (p : Nat) (h : chk (s.size + 1) 0 s.data.toList = some p) :
    Calls Tryd.prog 10 #[.string s] w fun e w' => e = .returned (.tuple #[.slice none 0 0, .slice none 0 0, .int .i64 p, .int .i64 11]) ∧ Below w.heap.size w w' := by
  have HC := Lib.hid (check_text s w hs hT p h)
  clear hT h
  go_enter Tryd.func10, Tryd.ntmps10
  go_wp2_with (go_at_call 18; refine HC.out.mono ?_; rintro e w3 ⟨rfl, hb3⟩)
  refine bodyPost_ret (v := .tuple #[.slice none 0 0, .slice none 0 0, .int .i64 p, .int .i64 11]) (by simp [results, Tryd.results10, go_sem]) rfl ⟨rfl, hb3⟩
set_option maxRecDepth 100000 in
set_option maxHeartbeats 8000000 in
theorem scan_good (s : ByteArray) (w : World) (hs : s.size ≤ 65536) (hE : EnvJ w) (h : chk (s.size + 1) 0 s.data.toList = none) :
    Calls Tryd.prog 10 #[.string s] w (RetS w (Jsn.scan s.data.toList)) := by
  have HK := Lib.hid (check_good s w hs hE.u8 h)
  have hS0 : Snd (s.data.toList.drop 0) := by rw [List.drop_zero]; unfold Snd; rw [size_toList]; exact h
  obtain ⟨C, hC⟩ : ∃ C, C = Jsn.scan s.data.toList := ⟨_, rfl⟩
  rw [← hC]
  have HC0 : Hid (C = (Jsn.scan (s.data.toList.drop 0)).app 0 [] []) := Lib.hid (by rw [hC]; exact Jsn.scan_app0 _)
  have HS0 := Lib.hid hS0
  have HE := Lib.hid hE
  clear h hC hS0 hE
  go_enter Tryd.func10, Tryd.ntmps10
  go_wp2_with (go_at_call 18; refine HK.out.mono ?_; rintro e w0 ⟨rfl, hb0⟩)
  generalize decide ((65536 : Int) < (s.size : Int)) = b17
  go_loopg [8, 9, 10] s.size (fun g tv nv i wr => ∃ (p : Nat) (ts : List Jsn.T) (ns : List Jsn.Note) (tw nw : Value), p + g = s.size ∧ tw = tv ∧ nw = nv ∧ i = .int .i64 p ∧ ts.length ≤ p ∧ ns.length ≤ p ∧ Hid (C = (Jsn.scan (s.data.toList.drop p)).app p ts ns) ∧ Hid (Snd (s.data.toList.drop p)) ∧ OwnTok wr w.heap.size tw ts ∧ OwnNote wr w.heap.size nw ns ∧ Below w.heap.size w wr)
  case atStart =>
    exact ⟨0, [], [], _, _, by omega, rfl, rfl, rfl, by simp, by simp, HC0, HS0, World.ownsRow_nil _ _ _ _, World.ownsRow_nil _ _ _ _, hb0⟩
  case round =>
    clear HC0 HK HS0 hb0
    obtain ⟨p, ts, ns, tw, nw, hg, rfl, rfl, rfl, ht, hn, HC, HS, hot, hon, hbel⟩ := hrel
    have hbs := hbel.size
    by_cases hlt : p < s.size
    · have hR := HC.out.trans (Jsn.scan_at p ts ns _ _ (drop_at s p hlt))
      have hne : s.data.toList.drop p ≠ [] := by rw [drop_at s p hlt]; simp
      have hlen : (s.data.toList.drop p).length = s.size - p := by rw [List.length_drop, size_toList]
      have HI := fun w => idx_call ⟨#[32, 9, 13, 10]⟩ s[p] w
      rw [show (⟨#[32, 9, 13, 10]⟩ : ByteArray).data.toList = [32, 9, 13, 10] from rfl] at HI
      have hip := idx_white s[p]
      obtain ⟨ix, hix⟩ : ∃ i, i = Lib.indexByte [32, 9, 13, 10] s[p] := ⟨_, rfl⟩
      rw [← hix] at HI hip
      have HI := Lib.hid HI
      clear hix HC
      cases hwh : Jsn.white s[p] with
      | true =>
        rw [hwh] at hip
        have hi0 : 0 ≤ ix := of_decide_eq_true hip
        have hst : Jsn.step (s.data.toList.drop p) = .skip := by unfold Jsn.step; rw [head_at s p hlt, hwh]; rfl
        rw [hst] at hR
        have HR := Lib.hid hR
        have HS2 : Hid (Snd (s.data.toList.drop (p + 1))) := Lib.hid (by rw [← List.drop_drop]; exact snd_of_cut _ 1 HS.out (by omega) (Or.inl ⟨s[p], by rw [drop_at s p hlt]; rfl, by
          have : Jsn.white s[p] = true := hwh
          simp only [Jsn.white, Bool.or_eq_true, beq_iff_eq] at this
          rcases this with ((h | h) | h) | h <;> rw [h] <;> decide⟩))
        clear hR hip hwh hst HS hne hlen
        go_wp2_with fail
        refine (HI.out _).mono ?_
        rintro e w3 ⟨rfl, rfl⟩
        clear HI
        go_wp2_with fail
        go_roundg (s.size - (p + 1))
        case measure => omega
        case rel => exact ⟨p + 1, ts, ns, _, _, by omega, rfl, rfl, by go_num, by omega, by omega, HR, HS2, hot, hon, hbel⟩
      | false =>
        rw [hwh] at hip
        have hi0 : ¬ (0 ≤ ix) := of_decide_eq_false hip
        have hst : Jsn.step (s.data.toList.drop p) = match Jsn.comment (s.data.toList.drop p) with
            | none => .bad 4 0
            | some 0 => Jsn.tstep (Jsn.token (s.data.toList.drop p))
            | some (m + 1) => .note (m + 1) := by
          unfold Jsn.step; rw [head_at s p hlt, hwh]; rfl
        have hsn := fun m => Jsn.step_note (l := s.data.toList.drop p) (m := m)
        have hstk := fun k m t => Jsn.step_tok (l := s.data.toList.drop p) hne (k := k) (m := m) (t := t)
        have HM := fun w hE => comment_from s p w hs hE
        clear hip hwh
        cases hcm : Jsn.comment (s.data.toList.drop p) with
        | none =>
          rw [hcm] at hst HM
          rw [hst] at hR
          have HR : Hid (C = .bad 4 p) := Lib.hid hR
          have HM := Lib.hid HM
          clear hR hst hsn hstk hcm HS hne hlen
          go_wp2_with fail
          refine (HI.out _).mono ?_
          rintro e w3 ⟨rfl, rfl⟩
          clear HI
          go_wp2_with fail
          refine (HM.out _ (HE.out.below hbel)).mono ?_
          rintro e w3 ⟨rfl, rfl⟩
          clear HM
          have e1 : cmtI none = -1 := rfl
          go_wp2_with fail
          refine bodyPost_ret (v := .tuple #[.slice none 0 0, .slice none 0 0, .int .i64 (p : Int), .int .i64 4]) (by simp [results, Tryd.results10, go_sem]) rfl ?_
          rw [HR.out]
          exact RetS_bad rfl rfl hbel
        | some m =>
          have e1 : cmtI (some m) = (m : Int) := rfl
          rw [hcm] at hst HM
          rw [e1] at HM
          clear e1
          rcases Nat.eq_zero_or_pos m with rfl | hm0
          · have HM : Hid (∀ w : World, EnvJ w → Calls Tryd.prog 20 #[.string (s.extract p s.size)] w fun e w' => e = .returned (.int .i64 0) ∧ w = w') := Lib.hid HM
            have HT := fun w hE => token_from s p w hlt hs hE HS.out
            cases htk : Jsn.token (s.data.toList.drop p) with
            | bad c n =>
              rw [htk] at HT hst
              rw [hst] at hR
              have HR : Hid (C = .bad c (p + n)) := Lib.hid hR
              have hn1 := Jsn.token_bad _ hne c n htk
              rw [hlen] at hn1
              have HT : Hid (∀ w : World, EnvJ w → Calls Tryd.prog 21 #[.string (s.extract p s.size)] w fun e w' => (∃ (k : Int) (s : ByteArray), e = .returned (.tuple #[.agg #[.int .i64 k, .int .i64 0, .int .i64 n, .string s], .int .i64 (c : Int)])) ∧ c ≠ 0 ∧ Below w.heap.size w w') := Lib.hid HT
              clear hR hst hsn hstk hcm HS hne hlen htk
              go_wp2_with fail
              refine (HI.out _).mono ?_
              rintro e w3 ⟨rfl, rfl⟩
              clear HI
              go_wp2_with fail
              refine (HM.out _ (HE.out.below hbel)).mono ?_
              rintro e w3 ⟨rfl, rfl⟩
              clear HM
              go_wp2_with fail
              refine (HT.out _ (HE.out.below hbel)).mono ?_
              rintro e w3 ⟨⟨k, t, rfl⟩, hc0, hb3⟩
              clear HT
              have hc1 : ((c : Int) != 0) = true := by rw [bne_iff_ne]; omega
              clear hc0

              go_wp2_with fail

              go_quiet (fail)
              go_wp2_with fail
              refine bodyPost_ret (v := .tuple #[.slice none 0 0, .slice none 0 0, .int .i64 ((p : Int) + n), .int .i64 c]) (by simp [results, Tryd.results10, go_sem]) rfl ?_
              rw [HR.out]
              exact RetS_bad (by omega) rfl (drewN_below ((hbel.trans (hb3.mono hbs)).alloc (Nat.le_trans hbs hb3.size) _) _)
            | ok k n t =>
              rw [htk] at HT hst
              rw [hst] at hR
              have HR : Hid (C = (Jsn.scan (s.data.toList.drop (p + n))).app (p + n) (ts ++ [⟨k, p, p + n, t⟩]) ns) := Lib.hid hR
              obtain ⟨hn1, hn2, hn3, _, _, hcu⟩ := Jsn.token_bd _ hne k n t htk
              rw [hlen] at hn2
              have HS2 : Hid (Snd (s.data.toList.drop (p + n))) := Lib.hid (by rw [← List.drop_drop]; exact snd_of_cut _ n HS.out hn1 hcu)
              have HT : Hid (∀ w : World, EnvJ w → Calls Tryd.prog 21 #[.string (s.extract p s.size)] w fun e w' => e = .returned (.tuple #[.agg #[.int .i64 (k : Int), .int .i64 0, .int .i64 (n : Int), .string ⟨t.toArray⟩], .int .i64 0]) ∧ Below w.heap.size w w') := Lib.hid HT
              clear hR hst hsn hstk hcm HS hne hlen htk hcu
              go_wp2_with fail
              refine (HI.out _).mono ?_
              rintro e w3 ⟨rfl, rfl⟩
              clear HI
              go_wp2_with fail
              refine (HM.out _ (HE.out.below hbel)).mono ?_
              rintro e w3 ⟨rfl, rfl⟩
              clear HM
              go_wp2_with fail
              refine (HT.out _ (HE.out.below hbel)).mono ?_
              rintro e w3 ⟨rfl, hb3⟩
              clear HT
              go_wp2_with ((with_reducible refine wpList_append_one rfl (.tmp 86) (.tmp 88) 23 rfl 34 _ 4 40 tokRowE w.heap.size _ ts.length (ts.flatMap tokCells) (w3.heap.size + 1) 1 (tokCells ⟨k, p, p + n, t⟩) ?_ ?_ (hot.keep (below_two hb3 hb3.size _ _)) ?_ ?_ (tok_ok _) ?_ ?_ ?_ ?_); exact rfl; exact rfl; exact rfl; exact new_cells2 w3 _ (tokCells ⟨k, p, p + n, t⟩) _; omega; omega; exact Nat.le_trans hbs (below_two hb3 hb3.size _ _).size)
              intro v' w4 hown4 hgr4 hb4
              have hB : Blk ((w3.alloc (.cells #[.int .i64 (k : Int), .int .i64 (p : Int), .int .i64 ((p : Int) + (n : Int)), .string ⟨t.toArray⟩] 34)).alloc (.cells #[.int .i64 (k : Int), .int .i64 (p : Int), .int .i64 ((p : Int) + (n : Int)), .string ⟨t.toArray⟩] 34)) w3.heap.size 34 #[.int .i64 (k : Int), .int .i64 (p : Int), .int .i64 ((p : Int) + (n : Int)), .string ⟨t.toArray⟩] := (Blk.new _ _ _).alloc _
              have hB4 := hB.grown hgr4 (fun q hq => by have := (World.ownsRow.lt hot q hq).2; have := hb3.size; omega)
              have hon4 := ownsRow_grown (hon.keep (below_two hb3 hb3.size _ _)) (hot.keep (below_two hb3 hb3.size _ _)) (by decide) hgr4
              have c2 : w4.cell? ⟨w3.heap.size, 2, none⟩ = some (.int .i64 ((p : Int) + (n : Int))) := hB4.at_ 2
              clear hB hB4 hgr4
              go_wp2_with fail
              go_roundg (s.size - (p + n))
              case measure => omega
              case rel => exact ⟨p + n, ts ++ [⟨k, p, p + n, t⟩], ns, v', _, by omega, rfl, rfl, by go_num, by simp; omega, by omega, HR, HS2, OwnTok.snoc hown4, hon4, (below_two (hbel.trans (hb3.mono hbs)) (Nat.le_trans hbs hb3.size) _ _).trans hb4⟩
          · obtain ⟨m, rfl⟩ : ∃ k, m = k + 1 := ⟨m - 1, by omega⟩
            rw [hst] at hR
            replace hR : C = (Jsn.scan (s.data.toList.drop (p + (m + 1)))).app (p + (m + 1)) ts (ns ++ [⟨p, p + (m + 1), (s.data.toList.drop p).take (m + 1)⟩]) := hR
            obtain ⟨hm1, hm2, -, -, hcu⟩ := hsn (m + 1) hst
            rw [hlen] at hm2
            obtain ⟨q, hq⟩ : ∃ q, q = m + 1 := ⟨_, rfl⟩
            rw [← hq] at hR HM hm1 hm2 hcu
            have HR : Hid (C = (Jsn.scan (s.data.toList.drop (p + q))).app (p + q) ts (ns ++ [⟨p, p + q, (s.data.toList.drop p).take q⟩])) := Lib.hid hR
            have HS2 : Hid (Snd (s.data.toList.drop (p + q))) := Lib.hid (by rw [← List.drop_drop]; exact snd_of_cut _ q HS.out (by omega) hcu)
            have HM : Hid (∀ w : World, EnvJ w → Calls Tryd.prog 20 #[.string (s.extract p s.size)] w fun e w' => e = .returned (.int .i64 (q : Int)) ∧ w = w') := Lib.hid HM
            have hE9 : [Value.int .i64 (p : Int), .int .i64 ((p : Int) + (q : Int)), .string (s.extract p (p + q))] = noteCells ⟨p, p + q, (s.data.toList.drop p).take q⟩ := by
              unfold noteCells
              rw [← ext_part]
              rfl
            have HE9 := Lib.hid hE9
            have g1 : ((p : Int) + (q : Int)).toNat = p + q := by omega
            have g2 : 0 < (q : Int) := by omega
            have g5 : (p : Int) ≤ (p : Int) + (q : Int) := by omega
            have g6 : 0 ≤ (p : Int) + (q : Int) := by omega
            have g3 : ((p : Int) + (q : Int)) ≤ (s.size : Int) := by omega
            clear hR hst hsn hstk hcm HS hne hlen hcu hE9 hq hm0
            go_wp2_with fail
            refine (HI.out _).mono ?_
            rintro e w3 ⟨rfl, rfl⟩
            clear HI
            go_wp2_with fail
            refine (HM.out _ (HE.out.below hbel)).mono ?_
            rintro e w5 ⟨rfl, rfl⟩
            clear HM
            go_wp2_with ((with_reducible refine wpList_append_one rfl (.tmp 48) (.tmp 60) 24 rfl 36 _ 3 32 noteRowE w.heap.size _ ns.length (ns.flatMap noteCells) w3.heap.size 1 [.int .i64 (p : Int), .int .i64 ((p : Int) + (q : Int)), .string (s.extract p (p + q))] ?_ ?_ (hon.keep (below_alloc _)) ?_ ?_ (note3_ok _ _ _) ?_ ?_ ?_ ?_); exact rfl; exact rfl; exact rfl; exact new_cells w3 [.int .i64 (p : Int), .int .i64 ((p : Int) + (q : Int)), .string (s.extract p (p + q))] _; omega; omega; exact Nat.le_trans hbs (below_alloc _).size)
            intro v' w4 hown4 hgr4 hb4
            have hot4 := ownsRow_grown (hot.keep (below_alloc _)) (hon.keep (below_alloc _)) (by decide) hgr4
            go_wp2_with fail
            go_roundg (s.size - (p + q))
            case measure => omega
            case rel => exact ⟨p + q, ts, ns ++ [⟨p, p + q, (s.data.toList.drop p).take q⟩], _, _, by omega, rfl, rfl, by go_num, by omega, by simp; omega, HR, HS2, hot4, OwnNote.snoc (HE9.out ▸ hown4), (hbel.alloc hbs _).trans hb4⟩
    · have HC9 : Hid (C = .ok ts ns) := Lib.hid (by rw [HC.out]; exact Jsn.scan_at_end _ _ _ _ (List.drop_of_length_le (by rw [size_toList]; omega)))
      clear HC HS
      go_wp2_with fail
      refine bodyPost_ret (v := .tuple #[tw, nw, .int .i64 0, .int .i64 0]) (by simp [results, Tryd.results10, go_sem]) rfl ?_
      rw [HC9.out]
      exact RetS_ok hot hon hbel
end Go.Proofs.YtjfkiomegacpeaaDoor
