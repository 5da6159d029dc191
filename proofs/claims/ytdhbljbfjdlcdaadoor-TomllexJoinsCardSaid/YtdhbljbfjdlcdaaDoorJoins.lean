/-
  TomllexJoins: true at every two sources.
-/
import Derived.Test.YtdhbljbfjdlcdaaDoorOut
import Derived.Test.YtdhbljbfjdlcdaaDoorTom6
namespace Go.Proofs.YtdhbljbfjdlcdaaDoor
open Go.RowKit
theorem app_list (a b : ByteArray) : (a ++ b).data.toList = a.data.toList ++ b.data.toList := by
  rw [ByteArray.data_append]
  simp
theorem out_join {a b : List UInt8} {T T' : List Tom.T} {N N' : List Tom.Note} (ha : Snd a) (hb : Snd b) (sa : Tom.scan a = .ok T N) (sb : Tom.scan b = .ok T' N') :
    ∃ T0, T = T0 ++ [⟨8, a.length, a.length, []⟩] ∧ outOf (a ++ 10 :: b) = ⟨T0 ++ ⟨1, a.length, a.length + 1, []⟩ :: T'.map (Tom.T.sh (a.length + 1)), N ++ N'.map (Tom.Note.sh (a.length + 1)), 0, 0⟩ := by
  obtain ⟨T0, hT, hz⟩ := Tom.scan_join a.length a T N (Nat.le_refl _) sa
  refine ⟨T0, hT, outOf_mk ((snd_app a 10 b (by decide)).2 ⟨ha, hb⟩) ?_⟩
  rw [hz b, Tom.scan_lf, sb, Tom.Res.app_app]
  simp [Tom.Res.app, Tom.T.sh, Nat.add_comm]
set_option maxRecDepth 100000 in
set_option maxHeartbeats 4000000 in
theorem tomllexJoins_any (a b : ByteArray) (za : a.size ≤ 140737488351232) (zb : b.size ≤ 140737488351232) (w : World) (hT : Lib.Utf8Tabs (Tryd.lays197_ren.g 3) (Tryd.lays197_ren.g 4) w) :
    Calls Tryd.prog 4 #[.string a, .string b] w fun e w' => e = .returned (.bool true) ∧ Below w.heap.size w w' := by
  by_cases hs : a.size ≤ 300 ∧ b.size ≤ 300
  · obtain ⟨hs1, hs2⟩ := hs
    have HA := Lib.hid (fun w1 (hb : Below w.heap.size w w1) => scan_out a w1 (by omega) (Utf8Tabs_below hT hb))
    have HB := Lib.hid (fun w1 (hb : Below w.heap.size w w1) => scan_out b w1 (by omega) (Utf8Tabs_below hT hb))
    have HJ : Hid (∀ w1, Below w.heap.size w w1 → Calls Tryd.prog 9 #[.string (a ++ ⟨#[10]⟩ ++ b)] w1 (RetO w1 (outOf (a.data.toList ++ 10 :: b.data.toList)))) := Lib.hid (fun w1 hb => by
      have := scan_out (a ++ ⟨#[10]⟩ ++ b) w1 (by rw [ByteArray.size_append, ByteArray.size_append]; show a.size + 1 + b.size ≤ _; omega) (Utf8Tabs_below hT hb)
      rw [app_list, app_list] at this
      simpa using this)
    have HW := Lib.hid (fun w1 (hb : Below w.heap.size w w1) => awake_any w1 (Utf8Tabs_below hT hb))
    clear hT
    have hoa : (outOf a.data.toList).code = 0 → ∃ T N, Snd a.data.toList ∧ Tom.scan a.data.toList = .ok T N ∧ outOf a.data.toList = ⟨T, N, 0, 0⟩ := outOf_ok
    have hob : (outOf b.data.toList).code = 0 → ∃ T N, Snd b.data.toList ∧ Tom.scan b.data.toList = .ok T N ∧ outOf b.data.toList = ⟨T, N, 0, 0⟩ := outOf_ok
    obtain ⟨oa, hoa1⟩ : ∃ o, o = outOf a.data.toList := ⟨_, rfl⟩
    obtain ⟨ob, hob1⟩ : ∃ o, o = outOf b.data.toList := ⟨_, rfl⟩
    obtain ⟨oj, hoj1⟩ : ∃ o, o = outOf (a.data.toList ++ 10 :: b.data.toList) := ⟨_, rfl⟩
    rw [← hoa1] at HA hoa
    rw [← hob1] at HB hob
    rw [← hoj1] at HJ
    by_cases hca : oa.code = 0
    · by_cases hcb : ob.code = 0
      · obtain ⟨T, N, sa, ta, ea⟩ := hoa hca
        obtain ⟨T', N', sb, tb, eb⟩ := hob hcb
        obtain ⟨T0, hT0, ej⟩ := out_join sa sb ta tb
        rw [ej] at hoj1
        subst hT0
        rw [size_toList] at *
        have bda := Tom.scan_bd _ _ _ _ (Nat.le_refl _) ta
        have bdb := Tom.scan_bd _ _ _ _ (Nat.le_refl _) tb
        rw [size_toList] at bda bdb
        subst ea eb hoj1
        obtain ⟨n, hn⟩ : ∃ n, n = T0.length := ⟨_, rfl⟩
        obtain ⟨m, hm⟩ : ∃ m, m = T'.length := ⟨_, rfl⟩
        clear hoa hob sa sb ta tb hca hcb hoa1 hob1
        go_enter Tryd.func4, Tryd.ntmps4
        go_wp2_with fail
        refine (HA.out w (Below.refl _ _)).mono ?_
        rintro e w1 ⟨⟨tv, nv, rfl, hot, hon⟩, hb1⟩
        obtain ⟨ao, ac, rfl, hac, RA⟩ := row_at hot
        obtain ⟨xo, xc, rfl, hxc, RX⟩ := row_at hon
        clear hot hon
        go_wp2_with fail
        refine (HB.out w1 hb1).mono ?_
        rintro e w2 ⟨⟨tv, nv, rfl, hot, hon⟩, hb2⟩
        obtain ⟨bo, bc, rfl, hbc, RB⟩ := row_at hot
        obtain ⟨yo, yc, rfl, hyc, RY⟩ := row_at hon
        have RA2 := RA.keep hb2
        have hw2 := hb1.trans (hb2.mono hb1.size)
        clear hot hon RX RY RA hb1 hb2
        go_wp2_with fail
        refine (HJ.out w2 hw2).mono ?_
        rintro e w3 ⟨⟨tv, nv, rfl, hot, hon⟩, hb3⟩
        obtain ⟨jo, jc, rfl, hjc, RJ⟩ := row_at hot
        obtain ⟨zo, zc, rfl, hzc, RZ⟩ := row_at hon
        have RA3 := RA2.keep hb3
        have RB3 := RB.keep hb3
        have hw3 := hw2.trans (hb3.mono hw2.size)
        clear hot hon RZ RA2 RB hw2 hb3 HA HB HJ
        have fj1 : ∀ k, k < T0.length → (T0 ++ [(⟨8, a.size, a.size, []⟩ : Tom.T)])[k]? = T0[k]? := fun k hk => List.getElem?_append_left hk
        have fj2 : ∀ k, k < T0.length → (T0 ++ (⟨1, a.size, a.size + 1, []⟩ : Tom.T) :: T'.map (Tom.T.sh (a.size + 1)))[k]? = T0[k]? := fun k hk => List.getElem?_append_left hk
        have fj3 : (T0 ++ (⟨1, a.size, a.size + 1, []⟩ : Tom.T) :: T'.map (Tom.T.sh (a.size + 1)))[T0.length]? = some ⟨1, a.size, a.size + 1, []⟩ := by
          rw [List.getElem?_append_right (Nat.le_refl _), Nat.sub_self]; rfl
        have fj4 : ∀ k, (T0 ++ (⟨1, a.size, a.size + 1, []⟩ : Tom.T) :: T'.map (Tom.T.sh (a.size + 1)))[T0.length + 1 + k]? = (T'[k]?).map (Tom.T.sh (a.size + 1)) := fun k => by
          rw [List.getElem?_append_right (by omega), show T0.length + 1 + k - T0.length = k + 1 by omega, List.getElem?_cons_succ, List.getElem?_map]
        have fx1 : ∀ k, k < T0.length → ∃ t, T0[k]? = some t := fun k hk => ⟨_, List.getElem?_eq_getElem hk⟩
        have fx2 : ∀ k, k < T'.length → ∃ t, T'[k]? = some t ∧ t.to ≤ b.size ∧ t.frm ≤ b.size := fun k hk => ⟨_, List.getElem?_eq_getElem hk, by have := bdb.2.2.2 _ (List.getElem_mem hk); omega, by have := bdb.2.2.2 _ (List.getElem_mem hk); omega⟩
        have l1 : T0.length ≤ 301 := by have := bda.2.1; simp only [List.length_append, List.length_cons, List.length_nil] at this; omega
        have l2 : T'.length ≤ 301 := by omega
        have l3 : N.length ≤ 300 := by omega
        have l4 : N'.length ≤ 300 := by omega
        simp only [List.length_append, List.length_cons, List.length_nil, List.length_map, Nat.zero_add, ← hn, ← hm] at *
        have F1 := Lib.hid fj1
        have F2 := Lib.hid fj2
        have F3 := Lib.hid fj3
        have F4 := Lib.hid fj4
        have X1 := Lib.hid fx1
        have X2 := Lib.hid fx2
        clear fj1 fj2 fj3 fj4 fx1 fx2 bda bdb ej
        go_wp2_with fail
        go_loopg [91] n (fun g i wr => ∃ k : Nat, k + g = n ∧ i = .int .i64 k ∧ ∃ q, wr = w3.drewN q)
        case atStart => exact ⟨0, by omega, rfl, 0, rfl⟩
        case round =>
          obtain ⟨k, hg, rfl, q, rfl⟩ := hrel
          by_cases hk : k < n
          · obtain ⟨t, ht⟩ := X1.out k hk
            obtain ⟨ga, rfl, ga0, a0, a1, a2, a3⟩ := RA3.tok k t (by omega) ((F1.out k hk).trans ht)
            obtain ⟨gj, rfl, gj0, c0, c1, c2, c3⟩ := RJ.tok k t (by omega) ((F2.out k hk).trans ht)
            clear ht
            go_wp2
            go_quiet (fail)
            go_wp2
            go_roundg (n - (k + 1))
            case measure => omega
            case rel => exact ⟨k + 1, by omega, by go_num, _, rfl⟩
          · obtain rfl : k = n := by omega
            clear X1 F1 F2
            have hq : Below w3.heap.size w3 (w3.drewN q) := below_drewN w3 q
            generalize w3.drewN q = w4 at *
            have RB4 := RB3.keep hq
            have RJ4 := RJ.keep hq
            have hw4 := hw3.trans (hq.mono hw3.size)
            clear RA3 RB3 RJ hq hw3
            go_wp2_with fail
            go_loopg [106] m (fun g i wr => ∃ j : Nat, j + g = m ∧ i = .int .i64 j ∧ Below w4.heap.size w4 wr)
            case atStart => exact ⟨0, by omega, rfl, Below.refl _ _⟩
            case round =>
              obtain ⟨j, hg, rfl, hbr⟩ := hrel
              have RB5 := RB4.keep hbr
              have RJ5 := RJ4.keep hbr
              by_cases hj : j < m
              · obtain ⟨t, ht, ht1, ht2⟩ := X2.out j hj
                obtain ⟨gb, rfl, gb0, a0, a1, a2, a3⟩ := RB5.tok j t (by omega) ht
                obtain ⟨gj, rfl, gj0, c0, c1, c2, c3⟩ := RJ5.tok (k + 1 + j) (t.sh (a.size + 1)) (by omega) (by rw [F4.out j, ht]; rfl)
                simp only [Tom.T.sh] at c0 c1 c2 c3
                clear ht RB5 RJ5 F3 RB4 RJ4 X2 F4
                go_wp2_with fail
                go_roundg (m - (j + 1))
                case measure => omega
                case rel => exact ⟨j + 1, by omega, by go_num, (hbr.alloc hbr.size _).alloc (by rw [World.size_alloc]; have := hbr.size; omega) _⟩
              · have hw5 := hw4.trans (hbr.mono hw4.size)
                clear RB4 RJ4 X2 F4 hbr hw4
                go_wp2_with fail
                refine (HW.out wr hw5).mono ?_
                rintro e w6 ⟨rfl, k6⟩
                have RJ6 := RJ5.keep k6
                obtain ⟨gj, rfl, gj0, c0, c1, c2, c3⟩ := RJ6.tok k _ (by omega) F3.out
                have hw6 := hw5.trans (k6.mono hw5.size)
                simp only at c0 c1 c2 c3
                clear RJ6 RJ5 RB5 k6 hw5 F3
                go_wp2_with fail
                go_ret
                exact ⟨rfl, hw6⟩
      · clear hoa hob hoa1 hob1 hoj1 HJ
        have hca2 : ((oa.code : Int) != 0) = false := by rw [bne_eq_false_iff_eq]; omega
        clear hca
        go_enter Tryd.func4, Tryd.ntmps4
        have hc1 : ((ob.code : Int) != 0) = true := by rw [bne_iff_ne]; omega
        clear hcb
        go_wp2_with fail
        refine (HA.out w (Below.refl _ _)).mono ?_
        rintro e w1 ⟨⟨tv, nv, rfl, hot, hon⟩, hb1⟩
        clear hot hon
        go_wp2_with fail
        refine (HB.out w1 hb1).mono ?_
        rintro e w2 ⟨⟨tv, nv, rfl, hot, hon⟩, hb2⟩
        have hw2 := hb1.trans (hb2.mono hb1.size)
        clear hot hon
        go_wp2_with fail
        all_goals
          refine (HW.out w2 hw2).mono ?_
          rintro e w6 ⟨rfl, k6⟩
          have hw6 := hw2.trans (k6.mono hw2.size)
          go_wp2_with fail
          go_ret
          exact ⟨rfl, hw6⟩
    · clear hoa hob hoa1 hob1 hoj1 HJ
      have hc1 : ((oa.code : Int) != 0) = true := by rw [bne_iff_ne]; omega
      clear hca
      go_enter Tryd.func4, Tryd.ntmps4
      go_wp2_with fail
      refine (HA.out w (Below.refl _ _)).mono ?_
      rintro e w1 ⟨⟨tv, nv, rfl, hot, hon⟩, hb1⟩
      clear hot hon
      go_wp2_with fail
      refine (HB.out w1 hb1).mono ?_
      rintro e w2 ⟨⟨tv, nv, rfl, hot, hon⟩, hb2⟩
      have hw2 := hb1.trans (hb2.mono hb1.size)
      clear hot hon
      go_wp2_with fail
      refine (HW.out w2 hw2).mono ?_
      rintro e w6 ⟨rfl, k6⟩
      have hw6 := hw2.trans (k6.mono hw2.size)
      go_wp2_with fail
      go_ret
      exact ⟨rfl, hw6⟩
  · have HW := Lib.hid (fun w1 (hb : Below w.heap.size w w1) => awake_any w1 (Utf8Tabs_below hT hb))
    clear hT
    by_cases h1 : 300 < a.size
    · clear hs
      go_enter Tryd.func4, Tryd.ntmps4
      have h2 : 300 < (a.size : Int) := by omega
      go_wp2_with fail
      refine (HW.out w (Below.refl _ _)).mono ?_
      rintro e w6 ⟨rfl, k6⟩
      go_wp2_with fail
      go_ret
      exact ⟨rfl, k6⟩
    · have h2 : ¬ 300 < (a.size : Int) := by omega
      have h3 : 300 < (b.size : Int) := by omega
      clear hs h1
      go_enter Tryd.func4, Tryd.ntmps4
      go_wp2_with fail
      refine (HW.out w (Below.refl _ _)).mono ?_
      rintro e w6 ⟨rfl, k6⟩
      go_wp2_with fail
      go_ret
      exact ⟨rfl, k6⟩
end Go.Proofs.YtdhbljbfjdlcdaaDoor
