/-
  JsonlexNumbers: true at every string.
-/
import Derived.Test.YtjfkiomegacpeaaDoorJnD
import Derived.Test.YtjfkiomegacpeaaDoorJnu
import Derived.Test.YtjfkiomegacpeaaDoorJsV
import Derived.Deep.CutBlock
namespace Go.Proofs.YtjfkiomegacpeaaDoor
open Go.RowKit
theorem snd_lowN : ∀ (a : List UInt8), (∀ c ∈ a, c.toNat < 128) → Snd a
  | [], _ => rfl
  | c :: a, h => by
    rw [snd_ascii c (h c List.mem_cons_self)]
    exact snd_lowN a (fun d hd => h d (List.mem_cons_of_mem _ hd))
theorem out_nums (l : List UInt8) (hne : l ≠ []) (hc : ∀ c ∈ l, Jsn.numc c = true) (h0 : Jsn.letter (l.headD 0) = false) : outOf l = if Jsn.numeral l then ⟨[⟨3, 0, l.length, l⟩], [], 0, 0⟩ else ⟨[], [], 0, 12⟩ := by
  have hs := Jsn.scan_nums l hne hc h0
  have hS := snd_lowN l (fun c h => Jsn.numc_ascii c (hc c h))
  cases hn : Jsn.numeral l with
  | true => rw [hn, if_pos rfl] at hs; exact outOf_mk hS hs
  | false => rw [hn, if_neg (by decide)] at hs; exact outOf_bad hS hs
theorem numc_iff (c : UInt8) : Jsn.numc c = true ↔ ((48 ≤ (c.toNat : Int) ∧ (c.toNat : Int) ≤ 57) ∨ (c.toNat : Int) = 46 ∨ (c.toNat : Int) = 43 ∨ (c.toNat : Int) = 45 ∨ (c.toNat : Int) = 101 ∨ (c.toNat : Int) = 69) := by
  have h : ∀ n, n < 256 → (Jsn.numc (UInt8.ofNat n) = true ↔ ((48 ≤ n ∧ n ≤ 57) ∨ n = 46 ∨ n = 43 ∨ n = 45 ∨ n = 101 ∨ n = 69)) := by decide +kernel
  have h2 := h c.toNat (UInt8.toNat_lt c)
  rw [UInt8.ofNat_toNat] at h2
  rw [h2]
  omega
theorem not_letter (c : UInt8) (h : Jsn.numc c = true) (h1 : ¬ (97 ≤ (c.toNat : Int) ∧ (c.toNat : Int) ≤ 122)) (h2 : ¬ (65 ≤ (c.toNat : Int) ∧ (c.toNat : Int) ≤ 90)) : Jsn.letter c = false := by
  have k : ∀ n, n < 256 → Jsn.numc (UInt8.ofNat n) = true → ¬ (97 ≤ n ∧ n ≤ 122) → ¬ (65 ≤ n ∧ n ≤ 90) → Jsn.letter (UInt8.ofNat n) = false := by decide +kernel
  have h3 := k c.toNat (UInt8.toNat_lt c)
  rw [UInt8.ofNat_toNat] at h3
  exact h3 h (by omega) (by omega)
set_option maxRecDepth 100000 in
set_option maxHeartbeats 8000000 in
theorem jsonlexNumbers_any (s : ByteArray) (w : World) (hE : EnvJ w) :
    Calls Tryd.prog 7 #[.string s] w fun e w' => e = .returned (.bool true) ∧ Below w.heap.size w w' := by
  have HW := Lib.hid (awake_any w hE)
  by_cases hz : 0 < s.size
  · by_cases hz3 : s.size ≤ 300
    · have HSc : Hid (∀ w1, Below w.heap.size w w1 → Calls Tryd.prog 10 #[.string s] w1 (RetO w1 (outOf s.data.toList))) := Lib.hid (fun w1 hb => scan_out s w1 (by omega) (hE.below hb))
      have HNu : Hid (∀ w1, Calls Tryd.prog 16 #[.string s] w1 (RetNm w1 (Jsn.numeral s.data.toList))) := Lib.hid (fun w1 => rnumeral_any s w1 (by omega))
      obtain ⟨gd, hgd⟩ : ∃ b, b = decide ((97 ≤ (s[0].toNat : Int) ∧ (s[0].toNat : Int) ≤ 122) ∨ (65 ≤ (s[0].toNat : Int) ∧ (s[0].toNat : Int) ≤ 90)) := ⟨_, rfl⟩
      have HGD := Lib.hid hgd
      clear hgd hE
      go_enter Tryd.func7, Tryd.ntmps7
      go_wp2_with fail
      refine HW.out.mono ?_
      rintro e w0 ⟨rfl, hb0⟩
      clear HW
      go_upto_region 3 with fail
      go_cut [40] from 13 to 40 (fun b wx => b = .bool gd ∧ wx = w0)
      case first =>
        have hk1 := HGD.out
        have hlt := s[0].toNat_lt
        have hz0 : ((s.size : Int) == 0) = false := by rw [beq_eq_false_iff_ne]; omega
        generalize hX : (s[0].toNat : Int) = x at *
        have hx0 : 0 ≤ x := by omega
        have hxs : x < 65 ∨ (65 ≤ x ∧ x ≤ 90) ∨ (90 < x ∧ x < 97) ∨ (97 ≤ x ∧ x ≤ 122) ∨ 122 < x := by omega
        rcases hxs with h1 | ⟨h1, h2⟩ | ⟨h1, h2⟩ | ⟨h1, h2⟩ | h1
        · have hb : gd = false := by rw [hk1, decide_eq_false (by omega)]
          subst hb
          clear HGD hk1
          go_wp2_with fail
          all_goals first
            | (exfalso; omega)
            | (go_meet; case rel => exact ⟨(by first | rfl | exact congrArg Value.bool (decide_eq_false (by omega)) | exact congrArg Value.bool (decide_eq_true (by omega)) | exact congrArg Value.bool (by simp only [Bool.or_eq_false_iff, decide_eq_false_iff_not]; omega)), rfl⟩)
        · have hb : gd = true := by rw [hk1, decide_eq_true (by omega)]
          subst hb
          clear HGD hk1
          go_wp2_with fail
          all_goals first
            | (exfalso; omega)
            | (go_meet; case rel => exact ⟨(by first | rfl | exact congrArg Value.bool (decide_eq_false (by omega)) | exact congrArg Value.bool (decide_eq_true (by omega)) | exact congrArg Value.bool (by simp only [Bool.or_eq_false_iff, decide_eq_false_iff_not]; omega)), rfl⟩)
        · have hb : gd = false := by rw [hk1, decide_eq_false (by omega)]
          subst hb
          clear HGD hk1
          go_wp2_with fail
          all_goals first
            | (exfalso; omega)
            | (go_meet; case rel => exact ⟨(by first | rfl | exact congrArg Value.bool (decide_eq_false (by omega)) | exact congrArg Value.bool (decide_eq_true (by omega)) | exact congrArg Value.bool (by simp only [Bool.or_eq_false_iff, decide_eq_false_iff_not]; omega)), rfl⟩)
        · have hb : gd = true := by rw [hk1, decide_eq_true (by omega)]
          subst hb
          clear HGD hk1
          go_wp2_with fail
          all_goals first
            | (exfalso; omega)
            | (go_meet; case rel => exact ⟨(by first | rfl | exact congrArg Value.bool (decide_eq_false (by omega)) | exact congrArg Value.bool (decide_eq_true (by omega)) | exact congrArg Value.bool (by simp only [Bool.or_eq_false_iff, decide_eq_false_iff_not]; omega)), rfl⟩)
        · have hb : gd = false := by rw [hk1, decide_eq_false (by omega)]
          subst hb
          clear HGD hk1
          go_wp2_with fail
          all_goals first
            | (exfalso; omega)
            | (go_meet; case rel => exact ⟨(by first | rfl | exact congrArg Value.bool (decide_eq_false (by omega)) | exact congrArg Value.bool (decide_eq_true (by omega)) | exact congrArg Value.bool (by simp only [Bool.or_eq_false_iff, decide_eq_false_iff_not]; omega)), rfl⟩)
      case rest =>
        obtain ⟨rfl, rfl⟩ := hcut
        cases gd with
        | true =>
          clear HGD HSc HNu
          go_wp2_with fail
          go_ret
          exact ⟨rfl, hb0⟩
        | false =>
          have hgl := of_decide_eq_false HGD.out.symm
          have HGL : Hid (¬ (97 ≤ (s[0].toNat : Int) ∧ (s[0].toNat : Int) ≤ 122) ∧ ¬ (65 ≤ (s[0].toNat : Int) ∧ (s[0].toNat : Int) ≤ 90)) := Lib.hid ⟨fun h => hgl (.inl h), fun h => hgl (.inr h)⟩
          clear HGD hgl
          go_wp2_with fail
          go_loopg [3, 4] s.size (fun g iv cv wr => ∃ i : Nat, i + g = s.size ∧ iv = .int .i64 i ∧ Hid (∀ j (h : j < s.size), j < i → Jsn.numc s[j] = true) ∧ wc = wr)
          case atStart => exact ⟨0, by omega, rfl, Lib.hid (fun j _ h => absurd h (Nat.not_lt_zero _)), rfl⟩
          case round =>
            obtain ⟨i, hi, rfl, HJ, rfl⟩ := hrel
            by_cases hlt : i < s.size
            · obtain ⟨q, hq⟩ : ∃ q, q = !(Jsn.numc s[i]) := ⟨_, rfl⟩
              have HQ := Lib.hid hq
              clear hq
              go_upto_region 9 with fail
              go_cut [75] from 50 to 75 (fun b wx => b = .bool q ∧ wx = wc)
              case first =>
                have hnc := numc_iff s[i]
                have hqo := HQ.out
                generalize Jsn.numc s[i] = nb at *
                generalize hX : (s[i].toNat : Int) = x at *
                clear HGL HJ HQ HSc HNu
                have hxs : (48 ≤ x ∧ x ≤ 57) ∨ x = 46 ∨ x = 43 ∨ x = 45 ∨ x = 101 ∨ x = 69 ∨ (¬ (48 ≤ x ∧ x ≤ 57) ∧ x ≠ 46 ∧ x ≠ 43 ∧ x ≠ 45 ∧ x ≠ 101 ∧ x ≠ 69) := by omega
                rcases hxs with ⟨h1, h2⟩ | h1 | h1 | h1 | h1 | h1 | ⟨h1, h2, h3, h4, h5, h6⟩
                · obtain rfl : nb = true := hnc.2 (.inl ⟨h1, h2⟩)
                  subst hqo
                  clear hnc hX
                  go_wp2_with fail
                  all_goals first
                    | (exfalso; omega)
                    | (go_meet; case rel => exact ⟨(by first | rfl | exact congrArg Value.bool (decide_eq_false (by omega)) | exact congrArg Value.bool (decide_eq_true (by omega)) | exact congrArg Value.bool (by simp only [Bool.or_eq_false_iff, decide_eq_false_iff_not]; omega)), rfl⟩)
                · obtain rfl : nb = true := hnc.2 (.inr (.inl h1))
                  subst hqo
                  subst h1
                  clear hnc hX
                  go_wp2_with fail
                  go_meet
                  case rel => exact ⟨rfl, rfl⟩
                · obtain rfl : nb = true := hnc.2 (.inr (.inr (.inl h1)))
                  subst hqo
                  subst h1
                  clear hnc hX
                  go_wp2_with fail
                  go_meet
                  case rel => exact ⟨rfl, rfl⟩
                · obtain rfl : nb = true := hnc.2 (.inr (.inr (.inr (.inl h1))))
                  subst hqo
                  subst h1
                  clear hnc hX
                  go_wp2_with fail
                  go_meet
                  case rel => exact ⟨rfl, rfl⟩
                · obtain rfl : nb = true := hnc.2 (.inr (.inr (.inr (.inr (.inl h1)))))
                  subst hqo
                  subst h1
                  clear hnc hX
                  go_wp2_with fail
                  go_meet
                  case rel => exact ⟨rfl, rfl⟩
                · obtain rfl : nb = true := hnc.2 (.inr (.inr (.inr (.inr (.inr h1)))))
                  subst hqo
                  subst h1
                  clear hnc hX
                  go_wp2_with fail
                  go_meet
                  case rel => exact ⟨rfl, rfl⟩
                · obtain rfl : nb = false := by
                    cases nb with
                    | false => rfl
                    | true =>
                      rcases hnc.1 rfl with h | h | h | h | h | h
                      · exact absurd h h1
                      · exact absurd h h2
                      · exact absurd h h3
                      · exact absurd h h4
                      · exact absurd h h5
                      · exact absurd h h6
                  subst hqo
                  have k2 : (x != 46) = true := bne_iff_ne.2 h2
                  have k3 : (x != 43) = true := bne_iff_ne.2 h3
                  have k4 : (x != 45) = true := bne_iff_ne.2 h4
                  have k5 : (x != 101) = true := bne_iff_ne.2 h5
                  have k6 : (x != 69) = true := bne_iff_ne.2 h6
                  clear hnc hX
                  by_cases h7 : x < 48
                  · go_wp2_with fail
                    all_goals first
                      | (exfalso; omega)
                      | (go_meet; case rel => exact ⟨(by first | rfl | exact congrArg Value.bool (decide_eq_false (by omega)) | exact congrArg Value.bool (decide_eq_true (by omega)) | exact congrArg Value.bool (by simp only [Bool.or_eq_false_iff, decide_eq_false_iff_not]; omega)), rfl⟩)
                  · have h8 : 57 < x := by omega
                    go_wp2_with fail
                    all_goals first
                      | (exfalso; omega)
                      | (go_meet; case rel => exact ⟨(by first | rfl | exact congrArg Value.bool (decide_eq_false (by omega)) | exact congrArg Value.bool (decide_eq_true (by omega)) | exact congrArg Value.bool (by simp only [Bool.or_eq_false_iff, decide_eq_false_iff_not]; omega)), rfl⟩)
              case rest =>
                obtain ⟨rfl, rfl⟩ := hcut
                cases q with
                | true =>
                  clear HGL HJ HQ HSc HNu
                  go_wp2_with fail
                  go_ret
                  exact ⟨rfl, hb0⟩
                | false =>
                  have hqo : Jsn.numc s[i] = true := by
                    have := HQ.out
                    cases h : Jsn.numc s[i] with
                    | true => rfl
                    | false => rw [h] at this; cases this
                  have HJ2 : Hid (∀ j (h : j < s.size), j < i + 1 → Jsn.numc s[j] = true) := Lib.hid (fun j h hj => by
                    by_cases e : j = i
                    · subst e; exact hqo
                    · exact HJ.out j h (by omega))
                  clear HJ HQ hqo
                  go_wp2_with fail
                  go_roundg (s.size - (i + 1))
                  case measure => omega
                  case rel => exact ⟨i + 1, by omega, by go_num, HJ2, rfl⟩
            · have hall : ∀ c ∈ s.data.toList, Jsn.numc c = true := fun c hc => by
                obtain ⟨j, hj, rfl⟩ := List.getElem_of_mem hc
                have hj2 : j < s.size := by rw [← size_toList]; exact hj
                exact HJ.out j hj2 (by omega)
              have hhd : s.data.toList.headD 0 = s[0] := by
                have := head_at s 0 hz
                rwa [List.drop_zero] at this
              have hne : s.data.toList ≠ [] := fun e => by have := size_toList s; rw [e] at this; simp at this; omega
              have hou := out_nums s.data.toList hne hall (by rw [hhd]; exact not_letter s[0] (HJ.out 0 hz (by omega)) HGL.out.1 HGL.out.2)
              rw [hou, size_toList] at HSc
              clear hou hall hhd hne HGL HJ
              generalize Jsn.numeral s.data.toList = nm at *
              cases nm with
              | true =>
                have HSc2 : Hid (∀ w1, Below w.heap.size w w1 → Calls Tryd.prog 10 #[.string s] w1 (RetO w1 ⟨[⟨3, 0, s.size, s.data.toList⟩], [], 0, 0⟩)) := HSc
                clear HSc
                go_wp2_with fail
                refine (HSc2.out _ hb0).mono ?_
                rintro e w3 ⟨⟨tv, nv, rfl, hot, hon⟩, hb3⟩
                obtain ⟨a4, d4, rfl, hd4, R4⟩ := row_at hot
                obtain ⟨a5, d5, rfl, hd5, R5⟩ := row_at hon
                have hw3 := hb0.trans (hb3.mono hb0.size)
                clear hot hon R5 hb3 HSc2
                go_wp2_with fail
                refine (HNu.out _).mono ?_
                rintro e w4 ⟨⟨nn, vv, y, rfl, hv1⟩, hb4⟩
                have hBn : Blk (w4.alloc (.cells #[.bool false, .slice none 0 0, .int .i64 0] 46)) w4.heap.size 46 #[.bool false, .slice none 0 0, .int .i64 0] := Blk.new _ _ _
                have hb5 : Below w3.heap.size w3 ((w4.alloc (.cells #[.bool false, .slice none 0 0, .int .i64 0] 46)).setRow w4.heap.size #[.bool nn, vv, .int .i64 y]) := setRow_below (hb4.alloc hb4.size _) hb4.size _
                have hw5 := hw3.trans (hb5.mono hw3.size)
                obtain ⟨g1, rfl, gg1, t0, t1, t2, t3⟩ := (R4.keep hb5).tok 0 _ Nat.zero_lt_one rfl
                simp only [Nat.zero_mul, Nat.zero_add, List.length_cons, List.length_nil] at t0 t1 t2 t3 hd4 ⊢
                have hss : (⟨s.data.toList.toArray⟩ : ByteArray) = s := rfl
                rw [hss] at t3
                clear hss R4 HNu hb4 hb5 hw3
                go_wp2_with ((with_reducible refine wpList_store_three rfl 46 (.tmp 9) (.tmp 86) rfl rfl w4.heap.size (.bool false) (.slice none 0 0) (.int .i64 0) (.bool nn) vv (.int .i64 y) 46 rnumRow (one_bool _) hv1 (one_int _ _) ?_ ?_ hBn ?_); exact rfl; exact rfl)
                go_ret
                exact ⟨rfl, hw5⟩
              | false =>
                have HSc2 : Hid (∀ w1, Below w.heap.size w w1 → Calls Tryd.prog 10 #[.string s] w1 (RetO w1 ⟨[], [], 0, 12⟩)) := HSc
                clear HSc
                go_wp2_with fail
                refine (HSc2.out _ hb0).mono ?_
                rintro e w3 ⟨⟨tv, nv, rfl, hot, hon⟩, hb3⟩
                have hw3 := hb0.trans (hb3.mono hb0.size)
                clear hot hon hb3 HSc2
                go_wp2_with fail
                refine (HNu.out _).mono ?_
                rintro e w4 ⟨⟨nn, vv, y, rfl, hv1⟩, hb4⟩
                have hBn : Blk (w4.alloc (.cells #[.bool false, .slice none 0 0, .int .i64 0] 46)) w4.heap.size 46 #[.bool false, .slice none 0 0, .int .i64 0] := Blk.new _ _ _
                have hb5 : Below w3.heap.size w3 ((w4.alloc (.cells #[.bool false, .slice none 0 0, .int .i64 0] 46)).setRow w4.heap.size #[.bool nn, vv, .int .i64 y]) := setRow_below (hb4.alloc hb4.size _) hb4.size _
                have hw5 := hw3.trans (hb5.mono hw3.size)
                clear HNu hb4 hb5 hw3
                go_wp2_with ((with_reducible refine wpList_store_three rfl 46 (.tmp 9) (.tmp 86) rfl rfl w4.heap.size (.bool false) (.slice none 0 0) (.int .i64 0) (.bool nn) vv (.int .i64 y) 46 rnumRow (one_bool _) hv1 (one_int _ _) ?_ ?_ hBn ?_); exact rfl; exact rfl)
                go_ret
                exact ⟨rfl, hw5⟩
    · have hz4 : 300 < (s.size : Int) := by omega
      have hz0 : ((s.size : Int) == 0) = false := by rw [beq_eq_false_iff_ne]; omega
      clear hE hz3
      go_enter Tryd.func7, Tryd.ntmps7
      go_wp2_with fail
      refine HW.out.mono ?_
      rintro e w6 ⟨rfl, k6⟩
      go_wp2_with fail
      go_ret
      exact ⟨rfl, k6⟩
  · have hz0 : ((s.size : Int) == 0) = true := by rw [beq_iff_eq]; omega
    clear hE hz
    go_enter Tryd.func7, Tryd.ntmps7
    go_wp2_with fail
    refine HW.out.mono ?_
    rintro e w6 ⟨rfl, k6⟩
    go_wp2_with fail
    go_ret
    exact ⟨rfl, k6⟩
end Go.Proofs.YtjfkiomegacpeaaDoor
