/-
  TomllexLines: true at every source and choice.
-/
import Derived.Test.YtdhbljbfjdlcdaaDoorLines0
import Derived.Test.YtdhbljbfjdlcdaaDoorMid
namespace Go.Proofs.YtdhbljbfjdlcdaaDoor
open Go.RowKit
theorem intRow : ElemRow Tryd.prog 28 3 (.int .i64 0) 1 8 := ⟨Tryd.underlying28, by kernel_rfl, rfl, by decide⟩
def idxs (es : List Nat) : List Go.Value := es.map fun (i : Nat) => Go.Value.int .i64 (i : Int)
theorem idxs_len (es : List Nat) : (idxs es).length = es.length := by unfold idxs; rw [List.length_map]
theorem row_snoc {w : World} {B : Nat} {v : Value} {es : List Nat} {k : Nat} (h : w.ownsRow B 3 1 v (es.length + 1) (idxs es ++ [.int .i64 (k : Int)])) : w.ownsRow B 3 1 v (es ++ [k]).length (idxs (es ++ [k])) := by
  unfold idxs at *
  rw [List.length_append, List.map_append]
  exact h
set_option maxRecDepth 100000 in
set_option maxHeartbeats 4000000 in
theorem tomllexLines_any (s : ByteArray) (c : UInt8) (zs : s.size ≤ 140737488351232) (w : World) (hT : Lib.Utf8Tabs (Tryd.lays197_ren.g 3) (Tryd.lays197_ren.g 4) w) :
    Calls Tryd.prog 3 #[.string s, .int .u8 (c.toNat : Int)] w fun e w' => e = .returned (.bool true) ∧ Below w.heap.size w w' := by
  have HW := Lib.hid (fun w1 (hb : Below w.heap.size w w1) => awake_any w1 (Utf8Tabs_below hT hb))
  by_cases hs : s.size ≤ 500
  · have HA := Lib.hid (fun w1 (hb : Below w.heap.size w w1) => scan_out s w1 (by omega) (Utf8Tabs_below hT hb))
    have hc8 := c.toNat_lt
    have hoa : (outOf s.data.toList).code = 0 → ∃ T N, Snd s.data.toList ∧ Tom.scan s.data.toList = .ok T N ∧ outOf s.data.toList = ⟨T, N, 0, 0⟩ := outOf_ok
    by_cases hca : (outOf s.data.toList).code = 0
    · obtain ⟨T, N, sa, ta, ea⟩ := hoa hca
      rw [ea] at HA
      have bda := Tom.scan_bd _ _ _ _ (Nat.le_refl _) ta
      rw [size_toList] at bda
      have HO := Lib.hid (fun K t hK hk => out_lines2 sa ta K t hK hk)
      have HS : Hid (∀ (P : Nat) (o : Out), P ≤ s.size → outOf (s.data.toList.take P ++ ([32, 35, 110, 101, 119, 10] ++ s.data.toList.drop P)) = o → ∀ w1, Below w.heap.size w w1 → Calls Tryd.prog 9 #[.string (s.extract 0 P ++ ⟨#[32, 35, 110, 101, 119, 10]⟩ ++ s.extract P s.size)] w1 (RetO w1 o)) := Lib.hid (fun P o hP ho w1 hb => by
        have h1 : (s.extract 0 P).data.toList = s.data.toList.take P := by
          rw [Lib.extract_data]; simp
        have h2 := Lib.extract_to_end s P
        have := scan_out (s.extract 0 P ++ ⟨#[32, 35, 110, 101, 119, 10]⟩ ++ s.extract P s.size) w1 (by rw [← size_toList, app_two, app_two, h1, h2]; simp only [List.length_append, List.length_take, List.length_drop, size_toList]; show _ + 6 + _ ≤ _; omega) (Utf8Tabs_below hT hb)
        rw [app_two, app_two, h1, h2, List.append_assoc, show (⟨#[32, 35, 110, 101, 119, 10]⟩ : ByteArray).data.toList = [32, 35, 110, 101, 119, 10] from rfl, ho] at this
        exact this)
      have X1 : Hid (∀ k, k < T.length → ∃ t, T[k]? = some t ∧ t.frm ≤ 500 ∧ t.to ≤ 500) := Lib.hid (fun k hk => ⟨_, List.getElem?_eq_getElem hk, by have := bda.2.2.2 _ (List.getElem_mem hk); omega, by have := bda.2.2.2 _ (List.getElem_mem hk); omega⟩)
      have l1 : T.length ≤ 501 := by omega
      have l3 : N.length ≤ 500 := by omega
      obtain ⟨n, hn⟩ : ∃ n, n = T.length := ⟨_, rfl⟩
      have Hn := Lib.hid hn
      have ln : n ≤ 501 := by omega
      clear hoa hca sa ta ea bda hT
      go_enter Tryd.func3, Tryd.ntmps3
      go_wp2_with fail
      refine (HA.out w (Below.refl _ _)).mono ?_
      rintro e w1 ⟨⟨tv, nv, rfl, hot, hon⟩, hb1⟩
      obtain ⟨ao, ac, rfl, hac, RA⟩ := row_at hot
      obtain ⟨xo, xc, rfl, hxc, RX⟩ := row_at hon
      simp only [← hn] at hac RA ⊢
      clear hot hon RX HA hn
      go_wp2_with fail
      go_loopg [9, 37] n (fun g v i wr => ∃ (k : Nat) (es : List Nat) (ev : Value), k + g = n ∧ v = ev ∧ i = .int .i64 k ∧ es.length ≤ k ∧ Hid (∀ e ∈ es, ∃ t, T[e]? = some t ∧ t.kind = 1 ∧ e < n) ∧ wr.ownsRow w1.heap.size 3 1 ev es.length (idxs es) ∧ Below w1.heap.size w1 wr)
      case atStart => exact ⟨0, [], _, by omega, rfl, rfl, by simp, Lib.hid (by simp), World.ownsRow_nil _ _ _ _, Below.refl _ _⟩
      case round =>
        obtain ⟨k, es, ev, hg, rfl, rfl, hel, HE, hev, hbr⟩ := hrel
        by_cases hk : k < n
        · obtain ⟨t, ht, ht1, ht2⟩ := X1.out k (by have := Hn.out; omega)
          obtain ⟨ga, rfl, ga0, a0, a1, a2, a3⟩ := (RA.keep hbr).tok k t hk ht
          by_cases hk1 : t.kind = 1
          · have hk2 : (t.kind : Int) = 1 := by omega
            have HE2 : Hid (∀ e ∈ es ++ [k], ∃ t, T[e]? = some t ∧ t.kind = 1 ∧ e < n) := Lib.hid (by
              intro e he
              rcases List.mem_append.1 he with he | he
              · exact HE.out e he
              · obtain rfl : e = k := by simpa using he
                exact ⟨t, ht, hk1, hk⟩)
            clear ht hk1 HE
            go_wp2_with ((with_reducible refine wpList_append_one rfl (.tmp 45) (.tmp 47) 28 rfl 3 _ 1 8 intRow w1.heap.size _ es.length (idxs es) (wr.heap.size + 1) 1 [.int .i64 (k : Int)] ?_ ?_ (OwnR.keep hev (below_two (Below.refl _ _) (Nat.le_refl _) _ _)) ?_ ?_ ?_ ?_ ?_ ?_ ?_); exact rfl; exact rfl; exact rfl; exact new_cells2 wr _ [.int .i64 (k : Int)] _; exact one_ok _ _; omega; omega; exact (below_two hbr hbr.size _ _).size)
            intro v' w4 hown4 hgr4 hb4
            clear hgr4
            go_wp2_with fail
            go_roundg (n - (k + 1))
            case measure => omega
            case rel => exact ⟨k + 1, es ++ [k], _, by omega, rfl, by go_num, by simp; omega, HE2, row_snoc hown4, (below_two hbr hbr.size _ _).trans hb4⟩
          · have hk2 : ¬ (t.kind : Int) = 1 := by omega
            clear ht hk1
            go_wp2_with fail
            go_roundg (n - (k + 1))
            case measure => omega
            case rel => exact ⟨k + 1, es, _, by omega, rfl, by go_num, by omega, HE, OwnR.keep hev (below_alloc _), hbr.alloc hbr.size _⟩
        · obtain rfl : k = n := by omega
          obtain ⟨eo, ec, rfl, hec, RE⟩ := row_at hev
          have RA2 := RA.keep hbr
          have hw2 := hb1.trans (hbr.mono hb1.size)
          clear RA hev hbr
          by_cases he0 : es.length = 0
          · have he1 : ((es.length : Int) == 0) = true := by rw [beq_iff_eq]; omega
            clear he0
            go_wp2_with fail
            refine (HW.out wr hw2).mono ?_
            rintro e w6 ⟨rfl, k6⟩
            have hw6 := hw2.trans (k6.mono hw2.size)
            go_wp2_with fail
            go_ret
            exact ⟨rfl, hw6⟩
          · have he1 : ((es.length : Int) == 0) = false := by rw [beq_eq_false_iff_ne]; omega
            obtain ⟨K, hKe⟩ : ∃ K, es[c.toNat % es.length]? = some K := ⟨_, List.getElem?_eq_getElem (Nat.mod_lt _ (by omega))⟩
            obtain ⟨t, ht, ht1, hKn⟩ := HE.out K (List.mem_of_getElem? hKe)
            have hr : ((c.toNat : Int) % (es.length : Int)) = ((c.toNat % es.length : Nat) : Int) := by rw [Int.natCast_emod]
            have hrl : c.toNat % es.length < es.length := Nat.mod_lt _ (by omega)
            obtain ⟨ge, rfl, hge, HG⟩ := RE (by omega)
            have e0 : wr.cell? ⟨ge, c.toNat % es.length, none⟩ = some (.int .i64 (K : Int)) := by
              rw [HG _ (by omega)]
              unfold idxs
              rw [List.getElem?_map, hKe]
              rfl
            have hr0 : 0 ≤ (es.length : Int) := by omega
            generalize c.toNat % es.length = r at *
            generalize es.length = q at *
            obtain ⟨ga, rfl, ga0, a0, a1, a2, a3⟩ := RA2.tok K t hKn ht
            obtain ⟨hto, M, N2, hN, hO, m1, m2, m3, m4⟩ := HO.out K t ht ht1
            rw [size_toList] at hto
            have hS := HS.out t.to _ hto hO
            have hto2 : ¬ (s.size : Int) < (t.to : Int) := by omega
            clear RE HG hKe HE ht he0 HO HS
            have HS := Lib.hid hS
            have hml : ∃ m, m = M.length := ⟨_, rfl⟩
            have M1 := Lib.hid m1
            have M2 := Lib.hid m2
            have M3 := Lib.hid m3
            have M4 := Lib.hid m4
            have HN := Lib.hid hN
            have M5 : Hid (∀ i, i < k + 1 → ∃ u, M[i]? = some u ∧ u.frm ≤ u.frm) := Lib.hid (fun i hi => ⟨_, List.getElem?_eq_getElem (by have := Hn.out; omega), Nat.le_refl _⟩)
            clear hS hN hO m1 m2 m3 m4 hml
            have e9 : (t.to : Int).toNat = t.to := by omega
            go_wp2_with fail
            have hw3 : Below w.heap.size w wr.drew := hw2.drew
            have RA3 : RowAt wr.drew 4 (some ⟨ga, 0, none⟩) k (T.flatMap tokCells) := RA2.keep (below_drewN wr 1)
            refine wp_region_mid 8 (by kernel_rfl) (by kernel_rfl) ?_
            simp only [List.take_succ_cons, List.take_zero, List.drop_succ_cons, List.drop_zero]
            repeat (go_big_quiet_step (fail))
            refine wpQuiet_nil ?_
            refine ⟨_, 9, #[.string (s.extract 0 t.to ++ ⟨#[32, 35, 110, 101, 119, 10]⟩ ++ s.extract t.to s.size)], rfl, ⟨rfl, _, rfl, rfl, rfl, fun _ => by kernel_rfl⟩, ?_⟩
            refine (HS.out _ hw3).mono ?_
            rintro e w6 ⟨⟨tv, nv, rfl, hot, hon⟩, hb3⟩
            refine ⟨_, rfl, ?_⟩
            go_simp
            repeat (go_big_quiet_step (fail))
            refine wpQuiet_nil ?_
            obtain ⟨mo, mc, rfl, hmc, RM⟩ := row_at hot
            obtain ⟨yo, yc, rfl, hyc, RY⟩ := row_at hon
            simp only at hmc hyc RM
            rw [M1.out] at hmc RM ⊢
            rw [HN.out] at hyc ⊢
            rw [← Hn.out] at hmc RM ⊢
            have RA6 := RA3.keep hb3
            have hw6 := hw3.trans (hb3.mono hw3.size)
            clear hot hon RY RA3 hw3 hb3 RA2 hw2 HS HN M1
            obtain ⟨gm, rfl, gm0, b0, b1, b2, b3⟩ := RM.tok (K + 1) _ (by omega) M3.out
            simp only at b0
            go_wp2_with fail
            clear a0 a1 a2 a3 b0 b1 b2 b3 e0 M3
            go_loopg [114] k (fun g i wr => ∃ j : Nat, j + g = k ∧ i = .int .i64 j ∧ Below w6.heap.size w6 wr)
            case atStart => exact ⟨0, by omega, rfl, Below.refl _ _⟩
            case round =>
              obtain ⟨j, hg, rfl, hbr⟩ := hrel
              have RA7 := RA6.keep hbr
              have RM7 := RM.keep hbr
              clear RA6 RM
              by_cases hj : j < k
              · obtain ⟨t2, ht2, hf2, hto3⟩ := X1.out j (by have := Hn.out; omega)
                obtain ⟨ga', hga, ga1, a0, a1, a2, a3⟩ := RA7.tok j t2 hj ht2
                obtain rfl : ga = ga' := by simpa using hga
                by_cases hjK : j ≤ K
                · have hjK2 : ¬ (K : Int) < (j : Int) := by omega
                  obtain ⟨gm', hgm, gm1, b0, b1, b2, b3⟩ := RM7.tok j t2 (by omega) ((M2.out j hjK).trans ht2)
                  obtain rfl : gm = gm' := by simpa using hgm
                  clear hga hgm ht2 hjK RA7 RM7
                  go_wp2_with fail
                  go_roundg (k - (j + 1))
                  case measure => omega
                  case rel => exact ⟨j + 1, by omega, by go_num, below_two hbr hbr.size _ _⟩
                · have hjK2 : (K : Int) < (j : Int) := by omega
                  obtain ⟨u, hu, _⟩ := M5.out j (by omega)
                  obtain ⟨gm', hgm, gm1, b0, b1, b2, b3⟩ := RM7.tok j u (by omega) hu
                  obtain rfl : gm = gm' := by simpa using hgm
                  obtain ⟨gm', hgm2, gm2, c0, c1, c2, c3⟩ := RM7.tok (j + 1) (t2.sh 6) (by omega) (by rw [M4.out j (by omega), ht2]; rfl)
                  obtain rfl : gm = gm' := by simpa using hgm2
                  simp only [Tom.T.sh] at c0 c1 c2 c3
                  clear hga hgm hgm2 ht2 hjK RA7 RM7 hu
                  go_wp2_with fail
                  go_roundg (k - (j + 1))
                  case measure => omega
                  case rel => exact ⟨j + 1, by omega, by go_num, below_two hbr hbr.size _ _⟩
              · clear RA7 RM7
                have hw7 := hw6.trans (hbr.mono hw6.size)
                go_wp2_with fail
                refine (HW.out wr hw7).mono ?_
                rintro e w8 ⟨rfl, k8⟩
                have hw8 := hw7.trans (k8.mono hw7.size)
                go_wp2_with fail
                go_ret
                exact ⟨rfl, hw8⟩
    · clear hT hoa
      obtain ⟨o, ho⟩ : ∃ o, o = outOf s.data.toList := ⟨_, rfl⟩
      rw [← ho] at HA hca
      have hc1 : ((o.code : Int) != 0) = true := by rw [bne_iff_ne]; omega
      clear ho hca
      go_enter Tryd.func3, Tryd.ntmps3
      go_wp2_with fail
      refine (HA.out w (Below.refl _ _)).mono ?_
      rintro e w1 ⟨⟨tv, nv, rfl, hot, hon⟩, hb1⟩
      clear hot hon
      go_wp2_with fail
      refine (HW.out w1 hb1).mono ?_
      rintro e w6 ⟨rfl, k6⟩
      have hw6 := hb1.trans (k6.mono hb1.size)
      go_wp2_with fail
      go_ret
      exact ⟨rfl, hw6⟩
  · clear hT
    have h2 : 500 < (s.size : Int) := by omega
    clear hs
    go_enter Tryd.func3, Tryd.ntmps3
    go_wp2_with fail
    refine (HW.out w (Below.refl _ _)).mono ?_
    rintro e w6 ⟨rfl, k6⟩
    go_wp2_with fail
    go_ret
    exact ⟨rfl, k6⟩
theorem tomllexLines_int (s : ByteArray) (x : Int) (zs : s.size ≤ 140737488351232) (wx : (Lit.int .u8 x).wf = true) (w : World) (hT : Lib.Utf8Tabs (Tryd.lays197_ren.g 3) (Tryd.lays197_ren.g 4) w) :
    Calls Tryd.prog 3 #[.string s, .int .u8 x] w fun e w' => e = .returned (.bool true) ∧ Below w.heap.size w w' := by
  have hx : 0 ≤ x ∧ x ≤ 255 := by simpa [Lit.wf, IntKind.min, IntKind.max, IntKind.signed, IntKind.bits] using wx
  have e : ((UInt8.ofNat x.toNat).toNat : Int) = x := by rw [UInt8.toNat_ofNat']; omega
  have := tomllexLines_any s (UInt8.ofNat x.toNat) zs w hT
  rwa [e] at this
end Go.Proofs.YtdhbljbfjdlcdaaDoor
