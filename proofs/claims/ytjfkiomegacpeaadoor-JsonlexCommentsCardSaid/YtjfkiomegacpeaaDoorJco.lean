/-
  JsonlexComments: true at every three texts.
-/
import Derived.Test.YtjfkiomegacpeaaDoorJsV
import Derived.Test.YtjfkiomegacpeaaDoorDec
namespace Go.Proofs.YtjfkiomegacpeaaDoor
open Go.RowKit
theorem app_lst2 (a b : ByteArray) : (a ++ b).data.toList = a.data.toList ++ b.data.toList := by
  rw [ByteArray.data_append]
  simp
theorem close_c : ∀ c b : List UInt8, (∀ x ∈ c, x ≠ 42) → Jsn.close (c ++ 42 :: 47 :: b) = some c.length
  | [], b, _ => rfl
  | [x], b, h => by
    have hx : x ≠ 42 := h x List.mem_cons_self
    show Jsn.close (x :: 42 :: 47 :: b) = some 1
    unfold Jsn.close
    rw [if_neg (by simp)]
    rfl
  | x :: y :: c, b, h => by
    have hx : x ≠ 42 := h x List.mem_cons_self
    have ih := close_c (y :: c) b (fun z hz => h z (List.mem_cons_of_mem _ hz))
    show Jsn.close (x :: y :: (c ++ 42 :: 47 :: b)) = _
    rw [List.cons_append] at ih
    unfold Jsn.close
    rw [if_neg (by simp [hx]), ih]
    rfl
theorem run_full10 : ∀ c : List UInt8, (∀ x ∈ c, x ≠ 10) → Jsn.run (fun d => d != 10) c = c.length
  | [], _ => rfl
  | x :: c, h => by
    rw [Jsn.run_cons, if_pos (bne_iff_ne.2 (h x List.mem_cons_self)), run_full10 c (fun z hz => h z (List.mem_cons_of_mem _ hz))]
    rfl
theorem note_step (l : List UInt8) (m : Nat) (hw : Jsn.white (l.headD 0) = false) (hc : Jsn.comment l = some (m + 1)) : Jsn.step l = .note (m + 1) := by
  unfold Jsn.step
  rw [hw, hc]
  rfl
theorem scan_block (c b : List UInt8) (h : ∀ x ∈ c, x ≠ 42) : ∃ t, Jsn.scan (47 :: 42 :: (c ++ 42 :: 47 :: b)) = (Jsn.scan b).app (c.length + 4) [] [t] := by
  have hc : Jsn.comment (47 :: 42 :: (c ++ 42 :: 47 :: b)) = some (c.length + 3 + 1) := by
    rw [Jsn.comment_bl, close_c c b h]
    rfl
  rw [Jsn.scan_cons, note_step _ _ rfl hc]
  simp only
  have hd : (47 :: 42 :: (c ++ 42 :: 47 :: b)).drop (c.length + 3 + 1) = b := by
    rw [show c.length + 3 + 1 = c.length + 2 + 1 + 1 by omega, List.drop_succ_cons, List.drop_succ_cons, List.drop_append]
    simp
  rw [hd]
  exact ⟨_, rfl⟩
theorem scan_line (c b : List UInt8) (h : ∀ x ∈ c, x ≠ 10) : ∃ t, Jsn.scan (47 :: 47 :: (c ++ 10 :: b)) = (Jsn.scan b).app (c.length + 3) [] [t] := by
  have hc : Jsn.comment (47 :: 47 :: (c ++ 10 :: b)) = some (c.length + 1 + 1) := by
    rw [Jsn.comment_sl, Jsn.run_app _ 10 (by decide), run_full10 c h]
    congr 1
    omega
  rw [Jsn.scan_cons, note_step _ _ rfl hc]
  simp only
  have hd : (47 :: 47 :: (c ++ 10 :: b)).drop (c.length + 1 + 1) = 10 :: b := by
    rw [List.drop_succ_cons, List.drop_succ_cons, List.drop_append]
    simp
  have h10 : Jsn.scan (10 :: b) = (Jsn.scan b).app 1 [] [] := by
    rw [Jsn.scan_cons]; rfl
  rw [hd, h10, Jsn.Res.app_app]
  exact ⟨_, rfl⟩
theorem out_note {l b : List UInt8} {k : Nat} {t : Jsn.Note} (hl : Snd b → Snd l) (hs : Jsn.scan l = (Jsn.scan b).app k [] [t]) (h0 : (outOf b).code = 0) : ∃ N, outOf l = ⟨(outOf b).toks.map (Jsn.T.sh k), N, 0, 0⟩ ∧ N.length = (outOf b).notes.length + 1 := by
  obtain ⟨T, N, h1, h2, h3⟩ := outOf_ok h0
  rw [h3]
  refine ⟨[t] ++ N.map (Jsn.Note.sh k), outOf_mk (hl h1) ?_, by simp⟩
  rw [hs, h2]
  rfl
/-- Two rows of tokens that differ in their places. -/
def Like (A B : List Jsn.T) : Prop := A.length = B.length ∧ ∀ (k : Nat) (t : Jsn.T), A[k]? = some t → ∃ u : Jsn.T, B[k]? = some u ∧ u.kind = t.kind ∧ u.text = t.text
theorem like_sh (T B : List Jsn.T) (p q r : Nat) : Like (T ++ B.map (Jsn.T.sh p)) (T ++ (B.map (Jsn.T.sh q)).map (Jsn.T.sh r)) := by
  refine ⟨by simp, fun k t h => ?_⟩
  by_cases hk : k < T.length
  · rw [List.getElem?_append_left hk] at h ⊢
    exact ⟨t, h, rfl, rfl⟩
  · rw [List.getElem?_append_right (by omega), List.getElem?_map] at h
    rw [List.getElem?_append_right (by omega), List.getElem?_map, List.getElem?_map]
    cases hb : B[k - T.length]? with
    | none => rw [hb] at h; simp at h
    | some x =>
      rw [hb] at h
      simp only [Option.map_some, Option.some.injEq] at h
      subst h
      exact ⟨_, rfl, rfl, rfl⟩
theorem out_comments {a b c : List UInt8} (ha : (outOf a).code = 0) (hab : (outOf (a ++ 10 :: b)).code = 0) (hc : Snd c) (h42 : ∀ x ∈ c, x ≠ 42) (h10 : ∀ x ∈ c, x ≠ 10) :
    (∃ M O, outOf (a ++ 10 :: 47 :: 42 :: (c ++ 42 :: 47 :: b)) = ⟨M, O, 0, 0⟩ ∧ Like (outOf (a ++ 10 :: b)).toks M ∧ O.length = (outOf (a ++ 10 :: b)).notes.length + 1) ∧
    (∃ M O, outOf (a ++ 10 :: 47 :: 47 :: (c ++ 10 :: b)) = ⟨M, O, 0, 0⟩ ∧ Like (outOf (a ++ 10 :: b)).toks M ∧ O.length = (outOf (a ++ 10 :: b)).notes.length + 1) := by
  obtain ⟨T, N, sa, ta, ea⟩ := outOf_ok ha
  have hj := fun z => out_join (b := z) sa ta
  have hb : (outOf b).code = 0 := by
    apply Classical.byContradiction
    intro h
    rw [(hj b).2 h] at hab
    exact h hab
  rw [(hj b).1 hb]
  obtain ⟨t1, ht1⟩ := scan_block c b h42
  obtain ⟨t2, ht2⟩ := scan_line c b h10
  have s1 : Snd b → Snd (47 :: 42 :: (c ++ 42 :: 47 :: b)) := fun h => (snd_ascii 47 (by decide) _).2 ((snd_ascii 42 (by decide) _).2 ((snd_app c 42 _ (by decide)).2 ⟨hc, (snd_ascii 47 (by decide) _).2 h⟩))
  have s2 : Snd b → Snd (47 :: 47 :: (c ++ 10 :: b)) := fun h => (snd_ascii 47 (by decide) _).2 ((snd_ascii 47 (by decide) _).2 ((snd_app c 10 _ (by decide)).2 ⟨hc, h⟩))
  obtain ⟨N1, o1, l1⟩ := out_note s1 ht1 hb
  obtain ⟨N2, o2, l2⟩ := out_note s2 ht2 hb
  have j1 := (hj (47 :: 42 :: (c ++ 42 :: 47 :: b))).1 (by rw [o1])
  have j2 := (hj (47 :: 47 :: (c ++ 10 :: b))).1 (by rw [o2])
  rw [o1] at j1
  rw [o2] at j2
  refine ⟨⟨_, _, j1, like_sh _ _ _ _ _, ?_⟩, ⟨_, _, j2, like_sh _ _ _ _ _, ?_⟩⟩
  · simp only [List.length_append, List.length_map]; omega
  · simp only [List.length_append, List.length_map]; omega
set_option maxRecDepth 100000 in
theorem valid_any (s : ByteArray) (w : World) (hs : s.size ≤ 1099511627) :
    Calls Tryd.prog 17 #[.string s] w fun e w' => (∃ b : Bool, e = .returned (.bool b) ∧ (b = true → Snd s.data.toList)) ∧ Below w.heap.size w w' := by
  have HD := Lib.hid (decode_any s w hs)
  have hS : chk (s.size + 1) 0 s.data.toList = none → Snd s.data.toList := fun h => by unfold Snd; rw [size_toList]; exact h
  generalize chk (s.size + 1) 0 s.data.toList = o at *
  cases o with
  | none =>
    have HS := Lib.hid (hS rfl)
    clear hS
    have HD : Hid (Calls Tryd.prog 22 #[.string s] w fun e w' => (∃ v : Value, e = .returned (.tuple #[v, .int .i64 (-1)])) ∧ Below w.heap.size w w') := Lib.hid HD.out
    go_enter Tryd.func17, Tryd.ntmps17
    go_wp2_with fail
    refine HD.out.mono ?_
    rintro e w1 ⟨⟨v, rfl⟩, hb1⟩
    go_wp2_with fail
    go_ret
    exact ⟨⟨true, rfl, fun _ => HS.out⟩, hb1⟩
  | some p =>
    clear hS
    have HD : Hid (Calls Tryd.prog 22 #[.string s] w fun e w' => (∃ v : Value, e = .returned (.tuple #[v, .int .i64 (p : Int)])) ∧ Below w.heap.size w w') := Lib.hid HD.out
    go_enter Tryd.func17, Tryd.ntmps17
    go_wp2_with fail
    refine HD.out.mono ?_
    rintro e w1 ⟨⟨v, rfl⟩, hb1⟩
    have hp : ¬ (p : Int) < 0 := by omega
    go_wp2_with fail
    go_ret
    exact ⟨⟨false, rfl, fun h => by cases h⟩, hb1⟩
theorem cat5 (a b c : ByteArray) : (a ++ ⟨#[10, 47, 42]⟩ ++ c ++ ⟨#[42, 47]⟩ ++ b).data.toList = a.data.toList ++ 10 :: 47 :: 42 :: (c.data.toList ++ 42 :: 47 :: b.data.toList) := by
  rw [app_lst2, app_lst2, app_lst2, app_lst2]
  simp
theorem cat5b (a b c : ByteArray) : (a ++ ⟨#[10, 47, 47]⟩ ++ c ++ ⟨#[10]⟩ ++ b).data.toList = a.data.toList ++ 10 :: 47 :: 47 :: (c.data.toList ++ 10 :: b.data.toList) := by
  rw [app_lst2, app_lst2, app_lst2, app_lst2]
  simp
theorem cat3 (a b : ByteArray) : (a ++ ⟨#[10]⟩ ++ b).data.toList = a.data.toList ++ 10 :: b.data.toList := by
  rw [app_lst2, app_lst2]
  simp
set_option maxRecDepth 100000 in
set_option maxHeartbeats 8000000 in
theorem jsonlexComments_any (a b c : ByteArray) (za : a.size ≤ 140737488351232) (zb : b.size ≤ 140737488351232) (zc : c.size ≤ 140737488351232) (w : World) (hE : EnvJ w) :
    Calls Tryd.prog 8 #[.string a, .string b, .string c] w fun e w' => e = .returned (.bool true) ∧ Below w.heap.size w w' := by
  have HW := Lib.hid (awake_any w hE)
  by_cases hs : a.size + b.size + c.size ≤ 1500
  · have hs2 : ¬ (1500 < (a.size : Int) + (b.size : Int) + (c.size : Int)) := by omega
    have HV := Lib.hid (fun w1 => valid_any c w1 (by omega))
    have HA := Lib.hid (fun w1 (hb : Below w.heap.size w w1) => scan_out a w1 (by omega) (hE.below hb))
    have H1 := Lib.hid (fun w1 (hb : Below w.heap.size w w1) => scan_out (a ++ ⟨#[10]⟩ ++ b) w1 (by rw [ByteArray.size_append, ByteArray.size_append]; show a.size + 1 + b.size ≤ _; omega) (hE.below hb))
    have H2 := Lib.hid (fun w1 (hb : Below w.heap.size w w1) => scan_out (a ++ ⟨#[10, 47, 42]⟩ ++ c ++ ⟨#[42, 47]⟩ ++ b) w1 (by rw [ByteArray.size_append, ByteArray.size_append, ByteArray.size_append, ByteArray.size_append]; show a.size + 3 + c.size + 2 + b.size ≤ _; omega) (hE.below hb))
    have H3 := Lib.hid (fun w1 (hb : Below w.heap.size w w1) => scan_out (a ++ ⟨#[10, 47, 47]⟩ ++ c ++ ⟨#[10]⟩ ++ b) w1 (by rw [ByteArray.size_append, ByteArray.size_append, ByteArray.size_append, ByteArray.size_append]; show a.size + 3 + c.size + 1 + b.size ≤ _; omega) (hE.below hb))
    have HO := Lib.hid (fun ha hab hc h42 h10 => out_comments (a := a.data.toList) (b := b.data.toList) (c := c.data.toList) ha hab hc h42 h10)
    have hbd := (out_bd (a.data.toList ++ 10 :: b.data.toList)).2.1
    have hbz : (a.data.toList ++ 10 :: b.data.toList).length ≤ 1501 := by
      rw [List.length_append, List.length_cons, size_toList, size_toList]; omega
    rw [← cat5, ← cat5b, ← cat3] at HO
    rw [← cat3] at hbd hbz
    generalize outOf a.data.toList = o4 at *
    generalize outOf (a ++ ⟨#[10]⟩ ++ b).data.toList = o1 at *
    generalize outOf (a ++ ⟨#[10, 47, 42]⟩ ++ c ++ ⟨#[42, 47]⟩ ++ b).data.toList = o2 at *
    generalize outOf (a ++ ⟨#[10, 47, 47]⟩ ++ c ++ ⟨#[10]⟩ ++ b).data.toList = o3 at *
    have hn1 : o1.toks.length + o1.notes.length ≤ 1501 := Nat.le_trans hbd hbz
    clear hE hbd hbz hs
    go_enter Tryd.func8, Tryd.ntmps8
    go_wp2_with fail
    refine HW.out.mono ?_
    rintro e w0 ⟨rfl, hb0⟩
    clear HW
    go_wp2_with fail
    refine (HV.out w0).mono ?_
    rintro e w1 ⟨⟨v, rfl, hv⟩, hb1⟩
    have hw1 := hb0.trans (hb1.mono hb0.size)
    clear HV hb0 hb1
    cases v with
    | false =>
      clear hv
      go_wp2_with fail
      go_ret
      exact ⟨rfl, hw1⟩
    | true =>
      have HSnd := Lib.hid (hv rfl)
      clear hv
      go_wp2_with fail
      go_loopg [7] c.size (fun g i wr => ∃ j : Nat, j + g = c.size ∧ i = .int .i64 j ∧ Hid (∀ x ∈ c.data.toList.take j, x ≠ 42 ∧ x ≠ 10) ∧ wr = w1)
      case atStart => exact ⟨0, by omega, rfl, Lib.hid (by simp), rfl⟩
      case round =>
        obtain ⟨j, hg, rfl, HQ, rfl⟩ := hrel
        by_cases hj : j < c.size
        · by_cases h1 : c[j] = 42
          · have c1 : (c[j].toNat : Int) = 42 := by rw [h1]; rfl
            clear h1 HQ HO H1 H2 H3 HA HSnd
            go_wp2_with fail
            go_ret
            exact ⟨rfl, hw1⟩
          · by_cases h2 : c[j] = 10
            · have c1 : (c[j].toNat : Int) = 10 := by rw [h2]; rfl
              clear h1 h2 HQ HO H1 H2 H3 HA HSnd
              go_wp2_with fail
              go_ret
              exact ⟨rfl, hw1⟩
            · have c1 : ((c[j].toNat : Int) == 42) = false := byte_ne 42 h1
              have c2 : ((c[j].toNat : Int) == 10) = false := byte_ne 10 h2
              have HQ2 : Hid (∀ x ∈ c.data.toList.take (j + 1), x ≠ 42 ∧ x ≠ 10) := Lib.hid (fun x hx => by
                have hjl : j < c.data.toList.length := by rw [size_toList]; exact hj
                rw [List.take_succ_eq_append_getElem hjl, List.mem_append, List.mem_singleton] at hx
                rcases hx with hx | rfl
                · exact HQ.out x hx
                · exact ⟨h1, h2⟩)
              clear h1 h2 HQ
              go_wp2_with fail
              go_roundg (c.size - (j + 1))
              case measure => omega
              case rel => exact ⟨j + 1, by omega, by go_num, HQ2, rfl⟩
        · have hall := HQ.out
          rw [List.take_of_length_le (by rw [size_toList]; omega)] at hall
          have HX := Lib.hid (fun (h4 : o4.code = 0) (h1 : o1.code = 0) => HO.out h4 h1 HSnd.out (fun x hx => (hall x hx).1) (fun x hx => (hall x hx).2))
          clear hall HQ HO HSnd
          go_wp2_with fail
          refine (H1.out _ hw1).mono ?_
          rintro e w2 ⟨⟨tv, nv, rfl, hot, hon⟩, hb2⟩
          obtain ⟨a1, d1, rfl, hd1, R1⟩ := row_at hot
          obtain ⟨x1, y1, rfl, hy1, S1⟩ := row_at hon
          have hw2 := hw1.trans (hb2.mono hw1.size)
          clear hot hon hb2 hw1 H1
          go_wp2_with fail
          refine (H2.out _ hw2).mono ?_
          rintro e w3 ⟨⟨tv, nv, rfl, hot, hon⟩, hb3⟩
          obtain ⟨a2, d2, rfl, hd2, R2⟩ := row_at hot
          obtain ⟨x2, y2, rfl, hy2, S2⟩ := row_at hon
          have hw3 := hw2.trans (hb3.mono hw2.size)
          have R1 := R1.keep hb3
          clear hot hon hb3 hw2 H2
          go_wp2_with fail
          refine (H3.out _ hw3).mono ?_
          rintro e w4 ⟨⟨tv, nv, rfl, hot, hon⟩, hb4⟩
          obtain ⟨a3, d3, rfl, hd3, R3⟩ := row_at hot
          obtain ⟨x3, y3, rfl, hy3, S3⟩ := row_at hon
          have hw4 := hw3.trans (hb4.mono hw3.size)
          have R1 := R1.keep hb4
          have R2 := R2.keep hb4
          clear hot hon hb4 hw3 H3
          go_wp2_with fail
          refine (HA.out _ hw4).mono ?_
          rintro e w5 ⟨⟨tv, nv, rfl, hot, hon⟩, hb5⟩
          have hw5 := hw4.trans (hb5.mono hw4.size)
          have R1 := R1.keep hb5
          have R2 := R2.keep hb5
          have R3 := R3.keep hb5
          clear hot hon hb5 hw4 HA S1 S2 S3
          by_cases h4 : o4.code = 0
          · by_cases h1 : o1.code = 0
            · obtain ⟨⟨M, O, rfl, ⟨hl1, hL1⟩, hO1⟩, ⟨M', O', rfl, ⟨hl2, hL2⟩, hO2⟩⟩ := HX.out h4 h1
              have c4 : ((o4.code : Int) != 0) = false := by rw [bne_eq_false_iff_eq]; omega
              have c1 : ((o1.code : Int) != 0) = false := by rw [bne_eq_false_iff_eq]; omega
              have hL1 := Lib.hid hL1
              have hL2 := Lib.hid hL2
              have hex : Hid (∀ k, k < o1.toks.length → ∃ t, o1.toks[k]? = some t) := Lib.hid (fun k hk => ⟨_, List.getElem?_eq_getElem hk⟩)
              simp only at R2 R3 hd2 hd3 hy2 hy3 ⊢
              rw [← hl1] at R2 hd2
              rw [← hl2] at R3 hd3
              rw [hO1] at hy2
              rw [hO2] at hy3
              simp only [← hl1, ← hl2, hO1, hO2]
              clear hl1 hl2 hO1 hO2 HX h4 h1
              generalize o1.toks.length = n at *
              generalize o1.notes.length = m at *
              have g2 : (((m + 1 : Nat) : Int) != (m : Int) + 1) = false := by rw [bne_eq_false_iff_eq]; omega
              go_wp2_with fail
              go_loopg [24] n (fun g i wr => ∃ j : Nat, j + g = n ∧ i = .int .i64 j ∧ Below w5.heap.size w5 wr)
              case atStart => exact ⟨0, by omega, rfl, Below.refl _ _⟩
              case round =>
                obtain ⟨k, hg2, rfl, hbr⟩ := hrel
                by_cases hk : k < n
                · obtain ⟨t, ht⟩ := hex.out k hk
                  obtain ⟨u, hu, _, hu2⟩ := hL1.out k t ht
                  obtain ⟨z, hz, hz1, _⟩ := hL2.out k t ht
                  obtain ⟨g1, rfl, gg1, t0, t1, t2, t3⟩ := (R1.keep hbr).tok k t hk ht
                  obtain ⟨g2', rfl, gg2, u0, u1, u2, u3⟩ := (R2.keep hbr).tok k u hk hu
                  obtain ⟨g3, rfl, gg3, z0, z1, z2, z3⟩ := (R3.keep hbr).tok k z hk hz
                  rw [hu2] at u3
                  rw [hz1] at z0
                  clear ht hu hz hu2 hz1 hex hL1 hL2 R1 R2 R3 t1 t2 u0 u1 u2 z1 z2 z3
                  go_wp2_with fail
                  go_quiet (fail)
                  go_wp2_with fail
                  go_roundg (n - (k + 1))
                  case measure => omega
                  case rel => exact ⟨k + 1, by omega, by go_num, drewN_below hbr _⟩
                · clear hex hL1 hL2 R1 R2 R3
                  go_wp2_with fail
                  go_ret
                  exact ⟨rfl, hw5.trans (hbr.mono hw5.size)⟩
            · have c4 : ((o4.code : Int) != 0) = false := by rw [bne_eq_false_iff_eq]; omega
              have c1 : ((o1.code : Int) != 0) = true := by rw [bne_iff_ne]; omega
              clear HX h4 h1
              go_wp2_with fail
              go_ret
              exact ⟨rfl, hw5⟩
          · have c4 : ((o4.code : Int) != 0) = true := by rw [bne_iff_ne]; omega
            clear HX h4
            go_wp2_with fail
            go_ret
            exact ⟨rfl, hw5⟩
  · have h2 : 1500 < (a.size : Int) + (b.size : Int) + (c.size : Int) := by omega
    clear hs hE
    go_enter Tryd.func8, Tryd.ntmps8
    go_wp2_with fail
    refine HW.out.mono ?_
    rintro e w6 ⟨rfl, k6⟩
    go_wp2_with fail
    go_ret
    exact ⟨rfl, k6⟩
end Go.Proofs.YtjfkiomegacpeaaDoor
