/-
  The law's Written: the literal that it lays.
-/
import Derived.Test.YtjfkiomegacpeaaDoorJen
namespace Go.Proofs.YtjfkiomegacpeaaDoor
open Go.RowKit
/-- A slice of integers that came in. -/
def IntsR (w : World) (k : IntKind) (v : Value) (l : List Int) : Prop := ∃ ao cap, v = .slice ao l.length cap ∧ l.length ≤ cap ∧ (l ≠ [] → ∃ b o, ao = some ⟨b, o, none⟩ ∧ b < w.heap.size ∧ ∀ j x, l[j]? = some x → w.cell? ⟨b, o + j, none⟩ = some (.int k x))
theorem IntsR.keep {w w' : World} {k : IntKind} {v : Value} {l : List Int} (h : IntsR w k v l) (hb : Below w.heap.size w w') : IntsR w' k v l := by
  obtain ⟨ao, cap, h1, h2, h3⟩ := h
  refine ⟨ao, cap, h1, h2, fun hne => ?_⟩
  obtain ⟨b, o, h4, h5, h6⟩ := h3 hne
  exact ⟨b, o, h4, Nat.lt_of_lt_of_le h5 hb.size, fun j x hx => by rw [hb.cell (p := ⟨b, o + j, none⟩) h5]; exact h6 j x hx⟩
theorem IntsR.keepB {w w' : World} {B : Nat} {k : IntKind} {v : Value} {l : List Int} (h : IntsR w k v l) (hb : Below B w w') (hB : w.heap.size ≤ B) : IntsR w' k v l := by
  obtain ⟨ao, cap, h1, h2, h3⟩ := h
  refine ⟨ao, cap, h1, h2, fun hne => ?_⟩
  obtain ⟨b, o, h4, h5, h6⟩ := h3 hne
  exact ⟨b, o, h4, Nat.lt_of_lt_of_le h5 hb.size, fun j x hx => by rw [hb.cell (p := ⟨b, o + j, none⟩) (Nat.lt_of_lt_of_le h5 hB)]; exact h6 j x hx⟩
def howAt (st : List Nat) (i : Nat) : Nat := if st = [] then 0 else st.getD (i % st.length) 0
def pairs (rs st : List Nat) : List (Nat × Nat) := (List.range rs.length).map fun i => (rs.getD i 0, howAt st i)
theorem pairs_len (rs st : List Nat) : (pairs rs st).length = rs.length := by simp [pairs]
theorem pairs_get (rs st : List Nat) (i : Nat) (h : i < rs.length) : (pairs rs st)[i]? = some (rs.getD i 0, howAt st i) := by
  simp [pairs, h]
theorem wrs_snoc (L : List (Nat × Nat)) (i : Nat) (x : Nat × Nat) (h : L[i]? = some x) : Jsn.wrs (L.take (i + 1)) = Jsn.wrs (L.take i) ++ Jsn.wr x.1 x.2 := by
  obtain ⟨hi, hx⟩ := List.getElem?_eq_some_iff.1 h
  unfold Jsn.wrs
  rw [List.take_succ_eq_append_getElem hi, List.flatMap_append, hx]
  simp
theorem encs_snoc (L : List (Nat × Nat)) (i : Nat) (x : Nat × Nat) (h : L[i]? = some x) : Jsn.encs (L.take (i + 1)) = Jsn.encs (L.take i) ++ Jsn.enc x.1 := by
  obtain ⟨hi, hx⟩ := List.getElem?_eq_some_iff.1 h
  unfold Jsn.encs
  rw [List.take_succ_eq_append_getElem hi, List.flatMap_append, hx]
  simp
theorem wr_len (r how : Nat) : (Jsn.wr r how).length ≤ 12 := by
  have h := (Jsn.enc_len r).2.1
  unfold Jsn.wr
  repeat' split
  all_goals first
    | omega
    | (simp only [List.length_cons, List.length_append, List.length_nil, Jsn.hex4]; omega)
theorem wrs_len (L : List (Nat × Nat)) : (Jsn.wrs L).length ≤ 12 * L.length := by
  unfold Jsn.wrs
  induction L with
  | nil => simp
  | cons x L ih =>
    have := wr_len x.1 x.2
    rw [List.flatMap_cons, List.length_append, List.length_cons]
    omega
/-- The text after one more scalar. -/
theorem grow_text {s X : ByteArray} {L : List (Nat × Nat)} {i r how : Nat} (hs : s.data.toList = 34 :: Jsn.wrs (L.take i)) (hx : L[i]? = some (r, how)) (hX : X.data.toList = Jsn.wr r how) : (s ++ X).data.toList = 34 :: Jsn.wrs (L.take (i + 1)) := by
  rw [app_lst, hs, hX, wrs_snoc L i _ hx]
  rfl
theorem intsR_form {w : World} {k : IntKind} {v : Value} {l : List Int} (h : IntsR w k v l) : ∃ ao cap, v = .slice ao l.length cap ∧ l.length ≤ cap ∧ ∀ j x, l[j]? = some x → ∃ b o, ao = some ⟨b, o, none⟩ ∧ w.cell? ⟨b, o + j, none⟩ = some (.int k x) := by
  obtain ⟨ao, cap, h1, h2, h3⟩ := h
  refine ⟨ao, cap, h1, h2, fun j x hx => ?_⟩
  obtain ⟨b, o, h4, _, h6⟩ := h3 (by rintro rfl; simp at hx)
  exact ⟨b, o, h4, h6 j x hx⟩
set_option maxRecDepth 100000 in
set_option maxHeartbeats 8000000 in
theorem written_any (rs st : List Nat) (v1 v2 : Value) (w : World) (hl : rs.length ≤ 200) (hm : st.length ≤ 140737488351232) (hsc : ∀ r ∈ rs, Jsn.scalar r) (hst : ∀ b ∈ st, b < 256)
    (h1 : IntsR w .i32 v1 (rs.map (fun r : Nat => (r : Int)))) (h2 : IntsR w .u8 v2 (st.map (fun b : Nat => (b : Int)))) :
    Calls Tryd.prog 15 #[v1, v2] w fun e w' => (∃ s : ByteArray, e = .returned (.string s) ∧ s.data.toList = 34 :: (Jsn.wrs (pairs rs st) ++ [34])) ∧ Below w.heap.size w w' := by
  obtain ⟨n, hn⟩ : ∃ n, n = rs.length := ⟨_, rfl⟩
  obtain ⟨m, hm2⟩ : ∃ m, m = st.length := ⟨_, rfl⟩
  have HR := Lib.hid (fun w1 (hb : Below w.heap.size w w1) => intsR_form (h1.keep hb))
  have HS := Lib.hid (fun w1 (hb : Below w.heap.size w w1) => intsR_form (h2.keep hb))
  obtain ⟨a1, c1, rfl, hc1, -⟩ := h1
  obtain ⟨a2, c2, rfl, hc2, -⟩ := h2
  rw [List.length_map] at hc1 hc2
  rw [List.length_map, List.length_map, ← hn, ← hm2]
  rw [← hn] at hc1 hl
  rw [← hm2] at hc2 hm
  have HRr : Hid (∀ w1 i, Below w.heap.size w w1 → i < n → ∃ (b o r : Nat), a1 = some ⟨b, o, none⟩ ∧ w1.cell? ⟨b, o + i, none⟩ = some (.int .i32 (r : Int)) ∧ Jsn.scalar r ∧ r = rs.getD i 0) := Lib.hid (fun w1 i hb hi => by
    obtain ⟨ao, cap, e1, _, h3⟩ := HR.out w1 hb
    simp only [Value.slice.injEq] at e1
    obtain ⟨rfl, _, _⟩ := e1
    obtain ⟨b, o, e2, e3⟩ := h3 i (rs.getD i 0 : Nat) (by rw [List.getElem?_map, List.getD_eq_getElem?_getD, List.getElem?_eq_getElem (by omega)]; rfl)
    exact ⟨b, o, _, e2, e3, hsc _ (by rw [List.getD_eq_getElem?_getD, List.getElem?_eq_getElem (by omega)]; exact List.getElem_mem _), rfl⟩)
  have HSs : Hid (∀ w1 i, Below w.heap.size w w1 → 0 < m → ∃ (b o how : Nat), a2 = some ⟨b, o, none⟩ ∧ w1.cell? ⟨b, o + i % m, none⟩ = some (.int .u8 (how : Int)) ∧ how < 256 ∧ how = howAt st i) := Lib.hid (fun w1 i hb hi => by
    have hlt : i % m < st.length := by rw [← hm2]; exact Nat.mod_lt _ hi
    obtain ⟨ao, cap, e1, _, h3⟩ := HS.out w1 hb
    simp only [Value.slice.injEq] at e1
    obtain ⟨rfl, _, _⟩ := e1
    obtain ⟨b, o, e2, e3⟩ := h3 (i % m) (st.getD (i % m) 0 : Nat) (by rw [List.getElem?_map, List.getD_eq_getElem?_getD, List.getElem?_eq_getElem hlt]; rfl)
    refine ⟨b, o, _, e2, e3, hst _ (by rw [List.getD_eq_getElem?_getD, List.getElem?_eq_getElem hlt]; exact List.getElem_mem _), ?_⟩
    unfold howAt
    rw [if_neg (by rintro rfl; simp at hm2; omega), hm2])
  have HP : Hid (∀ i, i < n → (pairs rs st)[i]? = some (rs.getD i 0, howAt st i)) := Lib.hid (fun i hi => pairs_get rs st i (by omega))
  have HZ : Hid (m = 0 → ∀ i, howAt st i = 0) := Lib.hid (fun h i => by unfold howAt; rw [if_pos (List.eq_nil_of_length_eq_zero (by omega))])
  have HL : Hid ((pairs rs st).length = n) := Lib.hid (by rw [pairs_len, hn])
  have HE := Lib.hid encode_any
  have HH := Lib.hid hex_any
  clear HR HS hsc hst hn hm2
  generalize pairs rs st = L at *
  go_enter Tryd.func15, Tryd.ntmps15
  go_wp2_with fail
  go_loopg [5, 6] n (fun g sv iv wr => ∃ (i : Nat) (s : ByteArray), i + g = n ∧ iv = .int .i64 i ∧ sv = .string s ∧ s.size ≤ 1 + 12 * i ∧ Hid (s.data.toList = 34 :: Jsn.wrs (L.take i)) ∧ Below w.heap.size w wr)
  case atStart => exact ⟨0, _, by omega, rfl, rfl, by decide, Lib.hid rfl, Below.refl _ _⟩
  case round =>
    obtain ⟨i, s, hg, rfl, rfl, hsz, HT, hbr⟩ := hrel
    by_cases hi : i < n
    · obtain ⟨b, o, r, rfl, hcr, hsr, hre⟩ := HRr.out wr i hbr hi
      obtain ⟨how, hhow⟩ : ∃ how, how = howAt st i := ⟨_, rfl⟩
      have HX : Hid (L[i]? = some (r, how)) := Lib.hid (by rw [HP.out i hi, hre, hhow])
      clear hre HP
      go_upto_if 18 with fail
      go_cut [7] from 19 to 25 (fun v wx => v = .int .u8 (how : Int) ∧ wx = wr)
      case first =>
        by_cases hm0 : m = 0
        · have hz := HZ.out hm0 i
          rw [← hhow] at hz
          subst hz
          subst hm0
          clear HZ HSs HRr HX HT HE HH HL hcr hhow
          go_wp2_with fail
          go_meet
          case rel => exact ⟨rfl, rfl⟩
        · obtain ⟨b2, o2, hw2, rfl, hcs, hlt, hheq⟩ := HSs.out wr i hbr (by omega)
          obtain rfl : hw2 = how := by rw [hheq, hhow]
          have f1 : 0 < (m : Int) := by omega
          have f2 : ((m : Int) == 0) = false := by rw [beq_eq_false_iff_ne]; omega
          obtain ⟨j, hj⟩ : ∃ j, j = i % m := ⟨_, rfl⟩
          have hjm : j < m := by rw [hj]; exact Nat.mod_lt _ (by omega)
          have f3 : (i : Int) % (m : Int) = (j : Int) := by rw [hj]; rfl
          rw [← hj] at hcs
          clear HZ HSs HRr HX HT HE HH HL hcr hhow hheq hj hm0
          go_wp2_with fail
          go_meet
          case rel => exact ⟨rfl, rfl⟩
      case rest =>
        obtain ⟨rfl, rfl⟩ := hcut
        clear HSs HZ hhow
        have hr1 := hsr.1
        have hr2 := hsr.2
        obtain ⟨pl, hpl⟩ : ∃ b, b = Jsn.plain r := ⟨_, rfl⟩
        have HPl := Lib.hid hpl
        clear hpl
        go_upto_region 9 with fail
        go_cut [9] from 31 to 40 (fun v wx => v = .bool pl ∧ wx = wc)
        case first =>
          have hpl := HPl.out
          unfold Jsn.plain at hpl
          clear HRr HX HT HE HH HL hcr HPl hr1
          by_cases h1 : 32 ≤ r
          · by_cases h2 : r = 34
            · subst h2
              obtain rfl : pl = false := hpl
              go_wp2_with fail
              go_meet
              case rel => exact ⟨rfl, rfl⟩
            · by_cases h3 : r = 92
              · subst h3
                obtain rfl : pl = false := hpl
                go_wp2_with fail
                go_meet
                case rel => exact ⟨rfl, rfl⟩
              · have hp2 : pl = true := by rw [hpl, decide_eq_true h1, bne_iff_ne.2 h2, bne_iff_ne.2 h3]; rfl
                subst hp2
                have f1 : 32 ≤ (r : Int) := by omega
                have f2 : ((r : Int) != 34) = true := by rw [bne_iff_ne]; omega
                have f3 : ((r : Int) != 92) = true := by rw [bne_iff_ne]; omega
                clear hpl
                go_wp2_with fail
                go_meet
                case rel => exact ⟨rfl, rfl⟩
          · have hp2 : pl = false := by rw [hpl, decide_eq_false h1]; rfl
            subst hp2
            have f1 : ¬ 32 ≤ (r : Int) := by omega
            clear hpl
            go_wp2_with fail
            go_meet
            case rel => exact ⟨rfl, rfl⟩
        case rest =>
          obtain ⟨rfl, rfl⟩ := hcut
          by_cases hA : how % 3 = 0 ∧ pl = true
          · obtain ⟨ha, rfl⟩ := hA
            have f1 : (how : Int) % 3 = 0 := by omega
            have hw : Jsn.wr r how = Jsn.enc r := by unfold Jsn.wr; rw [if_pos ⟨ha, HPl.out.symm⟩]
            have HT2 := Lib.hid (fun X hX => grow_text (X := X) HT.out HX.out hX)
            have hl12 := wr_len r how
            rw [hw] at HT2 hl12
            have HEr := Lib.hid (HE.out r hr2)
            have hz := Lib.hid (show (⟨(Jsn.enc r).toArray⟩ : ByteArray).size = (Jsn.enc r).length from rfl)
            clear HT HX HE HH HPl hw ha hsr HRr
            go_wp2_with (go_at_call 14; with_reducible refine (HEr.out _).mono ?_; rintro e w3 ⟨rfl, hb3⟩)
            go_roundg (n - (i + 1))
            case measure => omega
            case rel => exact ⟨i + 1, _, by omega, by go_num, rfl, by rw [ByteArray.size_append, hz.out]; omega, Lib.hid (HT2.out _ rfl), hbr.trans (hb3.mono hbr.size)⟩
          · by_cases hB : how % 3 = 1 ∧ r = 10
            · obtain ⟨hb, rfl⟩ := hB
              have f1 : (how : Int) % 3 = 1 := by omega
              have hw : Jsn.wr 10 how = [92, 110] := by unfold Jsn.wr; rw [if_neg (by rintro ⟨h, _⟩; omega), if_pos ⟨hb, rfl⟩]
              have HT2 := Lib.hid (fun X hX => grow_text (X := X) HT.out HX.out hX)
              rw [hw] at HT2
              clear HT HX HE HH HPl hw hb hA hsr HRr
              go_wp2_with fail
              go_roundg (n - (i + 1))
              case measure => omega
              case rel => exact ⟨i + 1, _, by omega, by go_num, rfl, by rw [ByteArray.size_append]; show s.size + 2 ≤ _; omega, Lib.hid (HT2.out _ rfl), hbr⟩
            · by_cases hC : how % 3 = 1 ∧ (r = 34 ∨ r = 92 ∨ r = 47)
              · have hw : Jsn.wr r how = 92 :: Jsn.enc r := by unfold Jsn.wr; rw [if_neg (by rintro ⟨h, _⟩; omega), if_neg hB, if_pos hC]
                obtain ⟨hc, hr3⟩ := hC
                have f1 : (how : Int) % 3 = 1 := by omega
                have hl12 := wr_len r how
                have HT2 := Lib.hid (fun X hX => grow_text (X := X) HT.out HX.out hX)
                rw [hw] at HT2 hl12
                obtain ⟨E, hE⟩ : ∃ E : ByteArray, E = ⟨(Jsn.enc r).toArray⟩ := ⟨_, rfl⟩
                have HEr := Lib.hid (HE.out r hr2)
                rw [← hE] at HEr
                have hez : E.size + 1 ≤ 12 := by rw [hE]; exact hl12
                have hd : Hid (((⟨#[92]⟩ : ByteArray) ++ E).data.toList = 92 :: Jsn.enc r) := Lib.hid (by rw [app_lst, hE]; rfl)
                have hz1 : Hid ((⟨#[92]⟩ : ByteArray).size = 1) := Lib.hid rfl
                clear HT HX HE HH HPl hw hc hA hB hsr HRr hE
                rcases hr3 with rfl | rfl | rfl
                · go_wp2_with (go_at_call 14; refine (HEr.out _).mono ?_; rintro e w3 ⟨rfl, hb3⟩)
                  go_roundg (n - (i + 1))
                  case measure => omega
                  case rel => exact ⟨i + 1, _, by omega, by go_num, rfl, by rw [ByteArray.size_append, ByteArray.size_append, hz1.out]; omega, Lib.hid (HT2.out _ hd.out), hbr.trans (hb3.mono hbr.size)⟩
                · go_wp2_with (go_at_call 14; refine (HEr.out _).mono ?_; rintro e w3 ⟨rfl, hb3⟩)
                  go_roundg (n - (i + 1))
                  case measure => omega
                  case rel => exact ⟨i + 1, _, by omega, by go_num, rfl, by rw [ByteArray.size_append, ByteArray.size_append, hz1.out]; omega, Lib.hid (HT2.out _ hd.out), hbr.trans (hb3.mono hbr.size)⟩
                · go_wp2_with (go_at_call 14; refine (HEr.out _).mono ?_; rintro e w3 ⟨rfl, hb3⟩)
                  go_roundg (n - (i + 1))
                  case measure => omega
                  case rel => exact ⟨i + 1, _, by omega, by go_num, rfl, by rw [ByteArray.size_append, ByteArray.size_append, hz1.out]; omega, Lib.hid (HT2.out _ hd.out), hbr.trans (hb3.mono hbr.size)⟩
              · have h3 : (how % 3 = 0 ∧ pl = false) ∨ how % 3 = 1 ∨ how % 3 = 2 := by
                  have : how % 3 = 0 ∨ how % 3 = 1 ∨ how % 3 = 2 := by omega
                  rcases this with h | h | h
                  · refine .inl ⟨h, ?_⟩
                    cases pl with
                    | false => rfl
                    | true => exact absurd ⟨h, rfl⟩ hA
                  · exact .inr (.inl h)
                  · exact .inr (.inr h)
                have hA2 : ¬ (how % 3 = 0 ∧ Jsn.plain r = true) := by rw [← HPl.out]; exact hA
                have hb0 : Hid (((how : Int) % 2 == 0) = (how % 2 == 0)) := Lib.hid (by rw [Bool.eq_iff_iff, beq_iff_eq, beq_iff_eq]; omega)
                have hb1 : Hid (((how : Int) % 2 == 1) = (how % 2 == 1)) := Lib.hid (by rw [Bool.eq_iff_iff, beq_iff_eq, beq_iff_eq]; omega)
                have HT2 := Lib.hid (fun X hX => grow_text (X := X) HT.out HX.out hX)
                by_cases hD : 65536 ≤ r
                · have hw : Jsn.wr r how = [92, 117] ++ (Jsn.hex4 (how % 2 == 0) (55296 + (r - 65536) / 1024) ++ ([92, 117] ++ Jsn.hex4 (how % 2 == 1) (56320 + (r - 65536) % 1024))) := by
                    unfold Jsn.wr
                    rw [if_neg hA2, if_neg hB, if_neg hC, if_pos hD]
                  rw [hw, ← hb0.out, ← hb1.out] at HT2
                  have g1 : 65536 ≤ (r : Int) := by omega
                  have hB1 : ((r : Int) == 10) = false := by rw [beq_eq_false_iff_ne]; omega
                  have hB2 : ((r : Int) == 34) = false := by rw [beq_eq_false_iff_ne]; omega
                  have hB3 : ((r : Int) == 92) = false := by rw [beq_eq_false_iff_ne]; omega
                  have hB4 : ((r : Int) == 47) = false := by rw [beq_eq_false_iff_ne]; omega
                  have HH2 := Lib.hid (fun u => HH.out (55296 + (r - 65536) / 1024) u (by omega))
                  have HH3 := Lib.hid (fun u => HH.out (56320 + (r - 65536) % 1024) u (by omega))
                  rw [show ((55296 + (r - 65536) / 1024 : Nat) : Int) = 55296 + ((r : Int) - 65536) / 1024 by omega] at HH2
                  rw [show ((56320 + (r - 65536) % 1024 : Nat) : Int) = 56320 + ((r : Int) - 65536) % 1024 by omega] at HH3
                  generalize 55296 + (r - 65536) / 1024 = x at *
                  generalize 56320 + (r - 65536) % 1024 = y at *
                  obtain ⟨E, hE⟩ : ∃ E : ByteArray, E = ⟨(Jsn.hex4 ((how : Int) % 2 == 0) x).toArray⟩ := ⟨_, rfl⟩
                  obtain ⟨F, hF⟩ : ∃ E : ByteArray, E = ⟨(Jsn.hex4 ((how : Int) % 2 == 1) y).toArray⟩ := ⟨_, rfl⟩
                  have HH2 := Lib.hid (HH2.out ((how : Int) % 2 == 0))
                  have HH3 := Lib.hid (HH3.out ((how : Int) % 2 == 1))
                  rw [← hE] at HH2
                  rw [← hF] at HH3
                  have hez : E.size = 4 := by rw [hE]; rfl
                  have hfz : F.size = 4 := by rw [hF]; rfl
                  have hd : Hid (((⟨#[92, 117]⟩ : ByteArray) ++ E ++ ⟨#[92, 117]⟩ ++ F).data.toList = [92, 117] ++ (Jsn.hex4 ((how : Int) % 2 == 0) x ++ ([92, 117] ++ Jsn.hex4 ((how : Int) % 2 == 1) y))) := Lib.hid (by rw [app_lst, app_lst, app_lst, hE, hF]; simp)
                  have hz1 : Hid ((⟨#[92, 117]⟩ : ByteArray).size = 2) := Lib.hid rfl
                  have hz2 := Lib.hid hez
                  have hz3 := Lib.hid hfz
                  have hez2 : E.size ≤ 4 := by omega
                  have hfz2 : F.size ≤ 4 := by omega
                  clear HT HX HE HH HPl hw hA hB hC hsr HRr hE hF hA2 hb0 hb1 hez hfz
                  rcases h3 with ⟨h3, rfl⟩ | h3 | h3
                  · have f1 : (how : Int) % 3 = 0 := by omega
                    go_wp2_with (first | (go_at_call 24; with_reducible refine (HH2.out _).mono ?_; rintro e w3 ⟨rfl, hb3⟩) | (go_at_call 24; with_reducible refine (HH3.out _).mono ?_; rintro e w4 ⟨rfl, hb4⟩))
                    go_roundg (n - (i + 1))
                    case measure => omega
                    case rel => exact ⟨i + 1, _, by omega, by go_num, rfl, by rw [ByteArray.size_append, ByteArray.size_append, ByteArray.size_append, ByteArray.size_append, hz1.out, hz2.out, hz3.out]; omega, Lib.hid (HT2.out _ hd.out), (hbr.trans (hb3.mono hbr.size)).trans (hb4.mono (Nat.le_trans hbr.size hb3.size))⟩
                  · have f1 : (how : Int) % 3 = 1 := by omega
                    go_wp2_with (first | (go_at_call 24; with_reducible refine (HH2.out _).mono ?_; rintro e w3 ⟨rfl, hb3⟩) | (go_at_call 24; with_reducible refine (HH3.out _).mono ?_; rintro e w4 ⟨rfl, hb4⟩))
                    go_roundg (n - (i + 1))
                    case measure => omega
                    case rel => exact ⟨i + 1, _, by omega, by go_num, rfl, by rw [ByteArray.size_append, ByteArray.size_append, ByteArray.size_append, ByteArray.size_append, hz1.out, hz2.out, hz3.out]; omega, Lib.hid (HT2.out _ hd.out), (hbr.trans (hb3.mono hbr.size)).trans (hb4.mono (Nat.le_trans hbr.size hb3.size))⟩
                  · have f1 : (how : Int) % 3 = 2 := by omega
                    go_wp2_with (first | (go_at_call 24; with_reducible refine (HH2.out _).mono ?_; rintro e w3 ⟨rfl, hb3⟩) | (go_at_call 24; with_reducible refine (HH3.out _).mono ?_; rintro e w4 ⟨rfl, hb4⟩))
                    go_roundg (n - (i + 1))
                    case measure => omega
                    case rel => exact ⟨i + 1, _, by omega, by go_num, rfl, by rw [ByteArray.size_append, ByteArray.size_append, ByteArray.size_append, ByteArray.size_append, hz1.out, hz2.out, hz3.out]; omega, Lib.hid (HT2.out _ hd.out), (hbr.trans (hb3.mono hbr.size)).trans (hb4.mono (Nat.le_trans hbr.size hb3.size))⟩
                · have hw : Jsn.wr r how = [92, 117] ++ Jsn.hex4 (how % 2 == 0) r := by
                    unfold Jsn.wr
                    rw [if_neg hA2, if_neg hB, if_neg hC, if_neg hD]
                  rw [hw, ← hb0.out] at HT2
                  have g1 : ¬ 65536 ≤ (r : Int) := by omega
                  have HH2 := Lib.hid (HH.out r ((how : Int) % 2 == 0) (by omega))
                  obtain ⟨E, hE⟩ : ∃ E : ByteArray, E = ⟨(Jsn.hex4 ((how : Int) % 2 == 0) r).toArray⟩ := ⟨_, rfl⟩
                  rw [← hE] at HH2
                  have hez : E.size = 4 := by rw [hE]; rfl
                  have hd : Hid (((⟨#[92, 117]⟩ : ByteArray) ++ E).data.toList = [92, 117] ++ Jsn.hex4 ((how : Int) % 2 == 0) r) := Lib.hid (by rw [app_lst, hE])
                  have hz1 : Hid ((⟨#[92, 117]⟩ : ByteArray).size = 2) := Lib.hid rfl
                  have hz2 := Lib.hid hez
                  have hez2 : E.size ≤ 4 := by omega
                  clear HT HX HE HH HPl hw hA hsr HRr hE hA2 hb0 hb1 hez
                  rcases h3 with ⟨h3, rfl⟩ | h3 | h3
                  · have f1 : (how : Int) % 3 = 0 := by omega
                    clear hB hC
                    go_wp2_with (go_at_call 24; with_reducible refine (HH2.out _).mono ?_; rintro e w3 ⟨rfl, hb3⟩)
                    go_roundg (n - (i + 1))
                    case measure => omega
                    case rel => exact ⟨i + 1, _, by omega, by go_num, rfl, by rw [ByteArray.size_append, ByteArray.size_append, hz1.out, hz2.out]; omega, Lib.hid (HT2.out _ hd.out), hbr.trans (hb3.mono hbr.size)⟩
                  · have f1 : (how : Int) % 3 = 1 := by omega
                    have hB1 : ((r : Int) == 10) = false := by rw [beq_eq_false_iff_ne]; intro h; exact hB ⟨h3, by omega⟩
                    have hB2 : ((r : Int) == 34) = false := by rw [beq_eq_false_iff_ne]; intro h; exact hC ⟨h3, by omega⟩
                    have hB3 : ((r : Int) == 92) = false := by rw [beq_eq_false_iff_ne]; intro h; exact hC ⟨h3, by omega⟩
                    have hB4 : ((r : Int) == 47) = false := by rw [beq_eq_false_iff_ne]; intro h; exact hC ⟨h3, by omega⟩
                    clear hB hC
                    go_wp2_with (go_at_call 24; with_reducible refine (HH2.out _).mono ?_; rintro e w3 ⟨rfl, hb3⟩)
                    go_roundg (n - (i + 1))
                    case measure => omega
                    case rel => exact ⟨i + 1, _, by omega, by go_num, rfl, by rw [ByteArray.size_append, ByteArray.size_append, hz1.out, hz2.out]; omega, Lib.hid (HT2.out _ hd.out), hbr.trans (hb3.mono hbr.size)⟩
                  · have f1 : (how : Int) % 3 = 2 := by omega
                    clear hB hC
                    go_wp2_with (go_at_call 24; with_reducible refine (HH2.out _).mono ?_; rintro e w3 ⟨rfl, hb3⟩)
                    go_roundg (n - (i + 1))
                    case measure => omega
                    case rel => exact ⟨i + 1, _, by omega, by go_num, rfl, by rw [ByteArray.size_append, ByteArray.size_append, hz1.out, hz2.out]; omega, Lib.hid (HT2.out _ hd.out), hbr.trans (hb3.mono hbr.size)⟩
    · obtain rfl : i = n := by omega
      clear HRr HSs HP HZ HE HH
      go_wp2_with fail
      go_ret
      refine ⟨⟨_, rfl, ?_⟩, hbr⟩
      rw [app_lst, HT.out, List.take_of_length_le (by rw [HL.out]; omega)]
      rfl
end Go.Proofs.YtjfkiomegacpeaaDoor
