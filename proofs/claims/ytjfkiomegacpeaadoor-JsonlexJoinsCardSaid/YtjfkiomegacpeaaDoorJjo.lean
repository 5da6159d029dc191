/-
  JsonlexJoins: true at every two sources.
-/
import Derived.Test.YtjfkiomegacpeaaDoorJsV
namespace Go.Proofs.YtjfkiomegacpeaaDoor
open Go.RowKit
theorem app_list (a b : ByteArray) : (a ++ b).data.toList = a.data.toList ++ b.data.toList := by
  rw [ByteArray.data_append]
  simp
set_option maxRecDepth 100000 in
set_option maxHeartbeats 8000000 in
theorem jsonlexJoins_any (a b : ByteArray) (za : a.size ≤ 140737488351232) (zb : b.size ≤ 140737488351232) (w : World) (hE : EnvJ w) :
    Calls Tryd.prog 5 #[.string a, .string b] w fun e w' => e = .returned (.bool true) ∧ Below w.heap.size w w' := by
  have HW := Lib.hid (awake_any w hE)
  by_cases hs : a.size + b.size ≤ 2000
  · have hs2 : ¬ (2000 < (a.size : Int) + (b.size : Int)) := by omega
    have HA := Lib.hid (fun w1 (hb : Below w.heap.size w w1) => scan_out a w1 (by omega) (hE.below hb))
    have HB := Lib.hid (fun w1 (hb : Below w.heap.size w w1) => scan_out b w1 (by omega) (hE.below hb))
    have HJ : Hid (∀ w1, Below w.heap.size w w1 → Calls Tryd.prog 10 #[.string (a ++ ⟨#[10]⟩ ++ b)] w1 (RetO w1 (outOf (a.data.toList ++ 10 :: b.data.toList)))) := Lib.hid (fun w1 hb => by
      have := scan_out (a ++ ⟨#[10]⟩ ++ b) w1 (by rw [ByteArray.size_append, ByteArray.size_append]; show a.size + 1 + b.size ≤ _; omega) (hE.below hb)
      rw [app_list, app_list] at this
      simpa using this)
    clear hE
    have hoa : (outOf a.data.toList).code = 0 → ∃ T N, Snd a.data.toList ∧ Jsn.scan a.data.toList = .ok T N ∧ outOf a.data.toList = ⟨T, N, 0, 0⟩ := outOf_ok
    have hba := out_bd a.data.toList
    have hbb := out_bd b.data.toList
    rw [size_toList] at hba hbb
    obtain ⟨oa, hoa1⟩ : ∃ o, o = outOf a.data.toList := ⟨_, rfl⟩
    rw [← hoa1] at HA hoa hba
    by_cases hca : oa.code = 0
    · obtain ⟨T, N, sa, ta, ea⟩ := hoa hca
      obtain ⟨hj1, hj2⟩ := out_join (b := b.data.toList) sa ta
      rw [size_toList] at hj1 hj2
      obtain ⟨ob, hob1⟩ : ∃ o, o = outOf b.data.toList := ⟨_, rfl⟩
      rw [← hob1] at HB hj1 hj2 hbb
      subst ea
      clear hoa hoa1 sa ta hca hob1 hs
      obtain ⟨T', N', at_, code⟩ := ob
      simp only at *
      obtain ⟨-, hba2, -⟩ := hba
      obtain ⟨hbb1, hbb2, hbb3⟩ := hbb
      by_cases hcb : code = 0
      · rw [hj1 hcb] at HJ
        subst hcb
        clear hj1 hj2
        obtain ⟨n, hn⟩ : ∃ n, n = T.length := ⟨_, rfl⟩
        obtain ⟨m, hm⟩ : ∃ m, m = T'.length := ⟨_, rfl⟩
        have f1 : ∀ k, k < n → (T ++ T'.map (Jsn.T.sh (a.size + 1)))[k]? = T[k]? := fun k hk => List.getElem?_append_left (by omega)
        have f2 : ∀ k, (T ++ T'.map (Jsn.T.sh (a.size + 1)))[n + k]? = (T'[k]?).map (Jsn.T.sh (a.size + 1)) := fun k => by
          rw [List.getElem?_append_right (by omega), show n + k - T.length = k by omega, List.getElem?_map]
        have f3 : ∀ k, k < n → ∃ t, T[k]? = some t := fun k hk => ⟨_, List.getElem?_eq_getElem (by omega)⟩
        have f4 : ∀ k, k < m → ∃ t, T'[k]? = some t ∧ t.frm ≤ b.size ∧ t.to ≤ b.size := fun k hk => ⟨_, List.getElem?_eq_getElem (by omega), hbb3 _ (List.getElem_mem (by omega))⟩
        have F1 := Lib.hid f1
        have F2 := Lib.hid f2
        have F3 := Lib.hid f3
        have F4 := Lib.hid f4
        have l1 : n ≤ a.size := by omega
        have l2 : m ≤ b.size := by omega
        clear f1 f2 f3 f4 hbb3 hbb1
        go_enter Tryd.func5, Tryd.ntmps5
        go_wp2_with fail
        refine HW.out.mono ?_
        rintro e w0 ⟨rfl, hb0⟩
        go_wp2_with fail
        refine (HA.out w0 hb0).mono ?_
        rintro e w1 ⟨⟨tv, nv, rfl, hot, hon⟩, hb1⟩
        obtain ⟨ao, ac, rfl, hac, RA⟩ := row_at hot
        obtain ⟨xo, xc, rfl, hxc, RX⟩ := row_at hon
        have hw1 := hb0.trans (hb1.mono hb0.size)
        clear hot hon
        go_wp2_with fail
        refine (HB.out w1 hw1).mono ?_
        rintro e w2 ⟨⟨tv, nv, rfl, hot, hon⟩, hb2⟩
        obtain ⟨bo, bc, rfl, hbc, RB⟩ := row_at hot
        obtain ⟨yo, yc, rfl, hyc, RY⟩ := row_at hon
        have RA2 := RA.keep hb2
        have hw2 := hw1.trans (hb2.mono hw1.size)
        clear hot hon RX RY RA hb1 hb2
        go_wp2_with fail
        refine (HJ.out w2 hw2).mono ?_
        rintro e w3 ⟨⟨tv, nv, rfl, hot, hon⟩, hb3⟩
        obtain ⟨jo, jc, rfl, hjc, RJ⟩ := row_at hot
        obtain ⟨zo, zc, rfl, hzc, RZ⟩ := row_at hon
        have RA3 := RA2.keep hb3
        have RB3 := RB.keep hb3
        have hw3 := hw2.trans (hb3.mono hw2.size)
        clear hot hon RZ RA2 RB hw2 hb3 HA HB HJ HW
        simp only [List.length_append, List.length_map] at RJ hjc RA3 RB3 hac hbc ⊢
        rw [← hn, ← hm] at RJ hjc
        rw [← hn] at RA3 hac
        rw [← hm] at RB3 hbc
        simp only [← hn, ← hm]
        clear hn hm
        have g1 : ((n : Int) + (m : Int) != (n : Int) + (m : Int)) = false := by simp
        have g2 : (((n + m : Nat) : Int) != (n : Int) + (m : Int)) = false := by rw [bne_eq_false_iff_eq]; omega
        go_wp2_with fail
        go_loopg [17] (n + m) (fun g i wr => ∃ k : Nat, k + g = n + m ∧ i = .int .i64 k ∧ Below w3.heap.size w3 wr)
        case atStart => exact ⟨0, by omega, rfl, Below.refl _ _⟩
        case round =>
          obtain ⟨k, hg, rfl, hbr⟩ := hrel
          have hw5 := hw3.trans (hbr.mono hw3.size)
          by_cases hk : k < n
          · obtain ⟨t, ht⟩ := F3.out k hk
            obtain ⟨ga, rfl, ga0, a0, a1, a2, a3⟩ := (RA3.keep hbr).tok k t hk ht
            obtain ⟨gj, rfl, gj0, c0, c1, c2, c3⟩ := (RJ.keep hbr).tok k t (by omega) ((F1.out k hk).trans ht)
            have h1 : (k : Int) < n := by omega
            have h2 : (k : Int) < ((n + m : Nat) : Int) := by omega
            clear ht F1 F2 F3 F4 RA3 RB3 RJ
            go_wp2_with fail
            go_quiet (fail)
            go_wp2_with fail
            go_roundg (n + m - (k + 1))
            case measure => omega
            case rel => exact ⟨k + 1, by omega, by go_num, drewN_below (hbr.alloc hbr.size _) _⟩
          · by_cases hk2 : k < n + m
            · obtain ⟨j, rfl⟩ : ∃ j, k = n + j := ⟨k - n, by omega⟩
              obtain ⟨t, ht, ht1, ht2⟩ := F4.out j (by omega)
              obtain ⟨gb, rfl, gb0, a0, a1, a2, a3⟩ := (RB3.keep hbr).tok j t (by omega) ht
              obtain ⟨gj, rfl, gj0, c0, c1, c2, c3⟩ := (RJ.keep hbr).tok (n + j) (t.sh (a.size + 1)) (by omega) (by rw [F2.out j, ht]; rfl)
              simp only [Jsn.T.sh] at c0 c1 c2 c3
              clear ht F1 F2 F3 F4 RA3 RB3 RJ
              go_wp2_with fail
              go_quiet (fail)
              go_wp2_with fail
              go_roundg (n + m - (n + j + 1))
              case measure => omega
              case rel => exact ⟨n + j + 1, by omega, by go_num, drewN_below (hbr.alloc hbr.size _) _⟩
            · clear F1 F2 F3 F4 RA3 RB3 RJ
              go_wp2_with fail
              go_ret
              exact ⟨rfl, hw5⟩
      · rw [hj2 hcb] at HJ
        clear hj1 hj2
        have hc1 : ((code : Int) != 0) = true := by rw [bne_iff_ne]; omega
        clear hcb hbb2 hbb3 hba2
        go_enter Tryd.func5, Tryd.ntmps5
        go_wp2_with fail
        refine HW.out.mono ?_
        rintro e w0 ⟨rfl, hb0⟩
        go_wp2_with fail
        refine (HA.out w0 hb0).mono ?_
        rintro e w1 ⟨⟨tv, nv, rfl, hot, hon⟩, hb1⟩
        have hw1 := hb0.trans (hb1.mono hb0.size)
        clear hot hon
        go_wp2_with fail
        refine (HB.out w1 hw1).mono ?_
        rintro e w2 ⟨⟨tv, nv, rfl, hot, hon⟩, hb2⟩
        have hw2 := hw1.trans (hb2.mono hw1.size)
        clear hot hon
        go_wp2_with fail
        refine (HJ.out w2 hw2).mono ?_
        rintro e w3 ⟨⟨tv, nv, rfl, hot, hon⟩, hb3⟩
        have hw3 := hw2.trans (hb3.mono hw2.size)
        clear hot hon
        have e1 : ((a.size + 1 + at_ : Nat) : Int) = (at_ : Int) + a.size + 1 := by omega
        go_wp2_with fail
        go_ret
        exact ⟨rfl, hw3⟩
    · clear hoa hoa1 hba hbb hs
      have hc1 : ((oa.code : Int) != 0) = true := by rw [bne_iff_ne]; omega
      clear hca
      generalize outOf b.data.toList = ob at *
      generalize outOf (a.data.toList ++ 10 :: b.data.toList) = oj at *
      go_enter Tryd.func5, Tryd.ntmps5
      go_wp2_with fail
      refine HW.out.mono ?_
      rintro e w0 ⟨rfl, hb0⟩
      go_wp2_with fail
      refine (HA.out w0 hb0).mono ?_
      rintro e w1 ⟨⟨tv, nv, rfl, hot, hon⟩, hb1⟩
      have hw1 := hb0.trans (hb1.mono hb0.size)
      clear hot hon
      go_wp2_with fail
      refine (HB.out w1 hw1).mono ?_
      rintro e w2 ⟨⟨tv, nv, rfl, hot, hon⟩, hb2⟩
      have hw2 := hw1.trans (hb2.mono hw1.size)
      clear hot hon
      go_wp2_with fail
      refine (HJ.out w2 hw2).mono ?_
      rintro e w3 ⟨⟨tv, nv, rfl, hot, hon⟩, hb3⟩
      have hw3 := hw2.trans (hb3.mono hw2.size)
      clear hot hon
      go_wp2_with fail
      go_ret
      exact ⟨rfl, hw3⟩
  · have h2 : 2000 < (a.size : Int) + (b.size : Int) := by omega
    clear hs hE
    go_enter Tryd.func5, Tryd.ntmps5
    go_wp2_with fail
    refine HW.out.mono ?_
    rintro e w6 ⟨rfl, k6⟩
    go_wp2_with fail
    go_ret
    exact ⟨rfl, k6⟩
end Go.Proofs.YtjfkiomegacpeaaDoor
