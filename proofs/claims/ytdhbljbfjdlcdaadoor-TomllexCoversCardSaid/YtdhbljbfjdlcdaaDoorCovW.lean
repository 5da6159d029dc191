/-
  TomllexCovers: the walk.
-/
import Derived.Test.YtdhbljbfjdlcdaaDoorCovers
namespace Go.Proofs.YtdhbljbfjdlcdaaDoor
open Go.RowKit
theorem take_snoc {α β : Type} (f : α → β) (T : List α) (k : Nat) (t : α) (h : T[k]? = some t) : (T.take (k + 1)).map f = (T.take k).map f ++ [f t] := by
  rw [List.take_add_one, h]
  simp
theorem ext_head (s : ByteArray) (a b : Nat) (x : List UInt8) (h : x = (s.data.toList.drop a).take (b - a)) (r : List UInt8) (hr : x = 35 :: r) (hab : a ≤ b) : (⟨x.toArray⟩ : ByteArray) = s.extract a b ∧ ∃ h0 : 0 < (s.extract a b).size, (s.extract a b)[0] = 35 := by
  have e1 : (s.extract a b).data.toList = x := by
    rw [h]
    have := ext_part s a (b - a)
    rw [show a + (b - a) = b by omega] at this
    exact this
  have e2 : (⟨x.toArray⟩ : ByteArray) = s.extract a b := by rw [← e1]
  refine ⟨e2, ?_⟩
  rw [← e2]
  subst hr
  exact ⟨by rw [← size_toList]; simp, rfl⟩
set_option maxRecDepth 100000 in
set_option maxHeartbeats 8000000 in
theorem covers_go (s : ByteArray) (hs : s.size ≤ 1000) (w : World) (hT : Lib.Utf8Tabs (Tryd.lays197_ren.g 3) (Tryd.lays197_ren.g 4) w) (T0 : List Tom.T) (N : List Tom.Note) (ho : outOf s.data.toList = ⟨T0 ++ [⟨8, s.size, s.size, []⟩], N, 0, 0⟩)
    (hbT : ∀ t ∈ T0 ++ [(⟨8, s.size, s.size, []⟩ : Tom.T)], t.frm ≤ s.size ∧ t.to ≤ s.size) (hlT : T0.length ≤ 1001) (hlN : N.length ≤ 1000) (hbN : ∀ x ∈ N, x.frm < x.to ∧ x.to ≤ s.size ∧ x.text = (s.data.toList.drop x.frm).take (x.to - x.frm) ∧ ∃ r, x.text = 35 :: r)
    (M : List (Nat × Nat)) (hM : ((T0 ++ [(⟨8, s.size, s.size, []⟩ : Tom.T)]).map Tom.tpair ++ N.map Tom.npair).Perm M) (hC : Tom.Cov s.data.toList 0 M) :
    Calls Tryd.prog 7 #[.string s] w fun e w' => e = .returned (.bool true) ∧ Below w.heap.size w w' := by
  have HA := scan_out s w (by omega) hT
  rw [ho] at HA
  have HA := Lib.hid HA
  have HW := Lib.hid (fun w1 (hb : Below w.heap.size w w1) => awake_any w1 (Utf8Tabs_below hT hb))
  have h2 : ¬ 1000 < (s.size : Int) := by omega
  clear hT ho
  obtain ⟨n0, hn0⟩ : ∃ n, n = T0.length := ⟨_, rfl⟩
  obtain ⟨m, hm⟩ : ∃ m, m = N.length := ⟨_, rfl⟩
  obtain ⟨T, hTd⟩ : ∃ T, T = T0 ++ [(⟨8, s.size, s.size, []⟩ : Tom.T)] := ⟨_, rfl⟩
  have hTn : T.length = n0 + 1 := by rw [hTd, hn0]; simp
  have hlast : T[n0]? = some ⟨8, s.size, s.size, []⟩ := by rw [hTd, hn0]; simp
  rw [← hTd] at HA hbT hM
  have HX1 := Lib.hid (fun k (hk : k < n0 + 1) => (⟨_, List.getElem?_eq_getElem (by rw [hTn]; exact hk), hbT _ (List.getElem_mem (by rw [hTn]; exact hk))⟩ : ∃ t, T[k]? = some t ∧ t.frm ≤ s.size ∧ t.to ≤ s.size))
  have HX2 := Lib.hid (fun k (hk : k < m) => (⟨_, List.getElem?_eq_getElem (by rw [← hm]; exact hk), hbN _ (List.getElem_mem (by rw [← hm]; exact hk))⟩ : ∃ t : Tom.Note, N[k]? = some t ∧ t.frm < t.to ∧ t.to ≤ s.size ∧ t.text = (s.data.toList.drop t.frm).take (t.to - t.frm) ∧ ∃ r, t.text = 35 :: r))
  have HL := Lib.hid hlast
  have HTN := Lib.hid hTn
  have HNN := Lib.hid hm.symm
  have hML : M.length = n0 + 1 + m := by
    have := hM.length_eq
    simp only [List.length_append, List.length_map, hTn, ← hm] at this
    omega
  have hbM : ∀ x ∈ M, x.1 < 2048 ∧ x.2 < 2048 := by
    intro x hx
    rcases List.mem_append.1 (hM.mem_iff.2 hx) with h | h
    · obtain ⟨t, ht, rfl⟩ := List.mem_map.1 h
      have := hbT t ht
      exact ⟨by show t.frm < _; omega, by show t.to < _; omega⟩
    · obtain ⟨t, ht, rfl⟩ := List.mem_map.1 h
      have := hbN t ht
      exact ⟨by show t.frm < _; omega, by show t.to < _; omega⟩
  have hasc := Tom.cov_asc _ _ _ hC
  have HM : Hid (∀ d : List P2, d.Perm (T.map (fun t => mk2 (Tom.tpair t)) ++ N.map (fun t => mk2 (Tom.npair t))) → d.Pairwise (fun x y => x.1.val ≤ y.1.val) → d.map back2 = M) := Lib.hid (fun d hd hp => by
    refine Tom.asc_eq M _ ?_ (List.pairwise_map.2 hp) hasc
    have e : (T.map (fun t => mk2 (Tom.tpair t)) ++ N.map (fun t => mk2 (Tom.npair t))) = ((T.map Tom.tpair ++ N.map Tom.npair)).map mk2 := by rw [List.map_append, List.map_map, List.map_map]; rfl
    rw [e] at hd
    have h3 := (hd.trans (hM.map mk2)).map back2
    rw [List.map_map] at h3
    have e2 : M.map (back2 ∘ mk2) = M := by
      conv => rhs; rw [← List.map_id M]
      exact List.map_congr_left fun x hx => back_mk x (hbM x hx).1 (hbM x hx).2
    rwa [e2] at h3)
  have HC0 : Hid (CovR s.data.toList 0 (M.drop 0)) := Lib.hid (Or.inr hC)
  have HXM := Lib.hid (fun k (hk : k < n0 + 1 + m) => (⟨_, List.drop_eq_getElem_cons (by rw [hML]; exact hk), List.getElem?_eq_getElem (by rw [hML]; exact hk)⟩ : ∃ x, M.drop k = x :: M.drop (k + 1) ∧ M[k]? = some x))
  have HME := Lib.hid (show M.drop (n0 + 1 + m) = [] from List.drop_of_length_le (by omega))
  have hn1 : n0 ≤ 1001 := by omega
  have hm1 : m ≤ 1000 := by omega
  clear hM hC hbT hbN hbM hasc hlast hTd hlT hlN hn0 hML
  go_enter Tryd.func7, Tryd.ntmps7
  go_wp2_with fail
  refine HA.out.mono ?_
  rintro e w1 ⟨⟨tv, nv, rfl, hot, hon⟩, hb1⟩
  obtain ⟨ao, ac, rfl, hac, RA⟩ := row_at hot
  obtain ⟨xo, xc, rfl, hxc, RX⟩ := row_at hon
  simp only [hTn, ← hm] at RA RX hac hxc ⊢
  clear hot hon HA h2 hm hTn
  go_wp2_with fail
  go_loopg [7, 41] (n0 + 1) (fun g v i wr => ∃ (k : Nat) (l : List P2) (tw : Value), k + g = n0 + 1 ∧ tw = v ∧ i = .int .i64 k ∧ l.length = k ∧ OwnP wr w1.heap.size tw l ∧ Hid (l = (T.take k).map (fun t => mk2 (Tom.tpair t))) ∧ Below w1.heap.size w1 wr)
  case atStart => exact ⟨0, [], _, by omega, rfl, rfl, rfl, World.ownsRow_nil _ _ _ _, Lib.hid rfl, Below.refl _ _⟩
  case round =>
    obtain ⟨k, l, tw, hg, rfl, rfl, hlk, hop, HLl, hbr⟩ := hrel
    have hbs := hbr.size
    by_cases hk : k < n0 + 1
    · obtain ⟨t, ht, ht1, ht2⟩ := HX1.out k hk
      have HL2 := Lib.hid (take_snoc (fun t => mk2 (Tom.tpair t)) T k t ht)
      have HE := Lib.hid (enc_mk (Tom.tpair t) (by show t.frm < _; omega) (by show t.to < _; omega))
      obtain ⟨ga, rfl, ga0, c0, c1, c2, c3⟩ := (RA.keep hbr).tok k t (by omega) ht
      clear ht
      go_wp2_with ((with_reducible refine wpList_append_one rfl (.tmp 45) (.tmp 51) 42 rfl 43 _ 2 16 pairRowE w1.heap.size _ l.length (l.flatMap enc2) (wr.heap.size + 1) 1 [.int .i64 (t.frm : Int), .int .i64 (t.to : Int)] ?_ ?_ (hop.keep (below_two (Below.refl _ _) (Nat.le_refl _) _ _)) ?_ ?_ (pair_ok _ _) ?_ ?_ ?_ ?_); exact rfl; exact rfl; exact rfl; exact new_cells2 wr _ [.int .i64 (t.frm : Int), .int .i64 (t.to : Int)] _; omega; omega; exact Nat.le_trans hbs (below_two (Below.refl _ _) (Nat.le_refl _) _ _).size)
      intro v' w4 hown4 hgr4 hb4
      go_wp2_with fail
      go_roundg (n0 + 1 - (k + 1))
      case measure => omega
      case rel => exact ⟨k + 1, l ++ [mk2 (Tom.tpair t)], v', by omega, rfl, by go_num, by simp; omega, OwnP.snoc (by rw [HE.out, hlk]; exact hown4), Lib.hid (by rw [HL2.out, HLl.out]), (below_two hbr hbs _ _).trans hb4⟩
    · obtain rfl : k = n0 + 1 := by omega
      have HLT : Hid (l = T.map (fun t => mk2 (Tom.tpair t)) ++ (N.take 0).map (fun t => mk2 (Tom.npair t))) := Lib.hid (by
        rw [HLl.out, List.take_of_length_le (by rw [HTN.out]; exact Nat.le_refl _)]
        simp)
      clear HLl
      have hop2 : OwnP wr w1.heap.size tw l := hop
      clear hop
      go_wp2_with fail
      go_loopg [7, 56] m (fun g v i wr' => ∃ (k : Nat) (l : List P2) (tw : Value), k + g = m ∧ tw = v ∧ i = .int .i64 k ∧ l.length = n0 + 1 + k ∧ OwnP wr' w1.heap.size tw l ∧ Hid (l = T.map (fun t => mk2 (Tom.tpair t)) ++ (N.take k).map (fun t => mk2 (Tom.npair t))) ∧ Below w1.heap.size w1 wr')
      case atStart => exact ⟨0, l, _, by omega, rfl, rfl, by omega, hop2, HLT, hbr⟩
      case round =>
        clear HLT hop2 hbr hbs
        obtain ⟨k, l, tw, hg, rfl, rfl, hlk, hop, HLl, hbr⟩ := hrel
        have hbs := hbr.size
        by_cases hk : k < m
        · obtain ⟨t, ht, ht1, ht2, ht3, r, hr⟩ := HX2.out k hk
          have HL2 := Lib.hid (take_snoc (fun t => mk2 (Tom.npair t)) N k t ht)
          have HE := Lib.hid (enc_mk (Tom.npair t) (by show t.frm < _; omega) (by show t.to < _; omega))
          obtain ⟨gx, rfl, gx0, c0, c1, c2⟩ := (RX.keep hbr).note k t (by omega) ht
          obtain ⟨e1, e2, e3⟩ := ext_head s t.frm t.to t.text ht3 r hr (by omega)
          rw [e1] at c2
          have e4 : ((s.extract t.frm t.to)[0].toNat : Int) = 35 := by rw [e3]; rfl
          clear ht ht3 hr e1 e3
          go_wp2_with fail
          have f1 : ¬ ((t.frm : Int) < 0) := by omega
          have f2 : ¬ ((s.size : Int) < (t.to : Int)) := by omega
          have f3 : ¬ ((t.to : Int) ≤ (t.frm : Int)) := by omega
          have f4 : (t.frm : Int) ≤ (t.to : Int) := by omega
          have f5 : (t.to : Int) ≤ (s.size : Int) := by omega
          go_quiet (fail)
          have hB3 : Blk ((wr.alloc (.cells #[.int .i64 (t.frm : Int), .int .i64 (t.to : Int), .string (s.extract t.frm t.to)] 39)).drewN nq) wr.heap.size 39 #[.int .i64 (t.frm : Int), .int .i64 (t.to : Int), .string (s.extract t.frm t.to)] := Blk.new wr _ _
          have hb3 : Below wr.heap.size wr ((wr.alloc (.cells #[.int .i64 (t.frm : Int), .int .i64 (t.to : Int), .string (s.extract t.frm t.to)] 39)).drewN nq) := (below_alloc _).trans (drewN_below (Below.refl _ _) nq)
          generalize (wr.alloc (.cells #[.int .i64 (t.frm : Int), .int .i64 (t.to : Int), .string (s.extract t.frm t.to)] 39)).drewN nq = w3 at *
          have b0 := hB3.at_ 0
          have b1 := hB3.at_ 1
          have hb31 : Below w1.heap.size w1 w3 := hbr.trans (hb3.mono hbs)
          have hop4 : OwnP w3 w1.heap.size tw l := hop.keep hb3
          clear f1 f2 f3 f4 f5 e2 e4 c0 c1 c2 hB3 hop
          generalize wr.heap.size = bx at *
          go_wp2_with ((with_reducible refine wpList_append_one rfl (.tmp 94) (.tmp 100) 42 rfl 43 _ 2 16 pairRowE w1.heap.size _ l.length (l.flatMap enc2) w3.heap.size 1 [.int .i64 (t.frm : Int), .int .i64 (t.to : Int)] ?_ ?_ (hop4.keep (below_alloc _)) ?_ ?_ (pair_ok _ _) ?_ ?_ ?_ ?_); exact rfl; exact rfl; exact rfl; exact new_cells w3 [.int .i64 (t.frm : Int), .int .i64 (t.to : Int)] _; omega; omega; exact (hb31.alloc hb31.size _).size)
          intro v' w4 hown4 hgr4 hb4
          go_wp2_with fail
          go_roundg (m - (k + 1))
          case measure => omega
          case rel => exact ⟨k + 1, l ++ [mk2 (Tom.npair t)], v', by omega, rfl, by go_num, by simp; omega, OwnP.snoc (by rw [HE.out, hlk]; exact hown4), Lib.hid (by rw [HL2.out, HLl.out, List.append_assoc]), (hb31.alloc hb31.size _).trans hb4⟩
        · obtain rfl : k = m := by omega
          have HF : Hid (l = T.map (fun t => mk2 (Tom.tpair t)) ++ N.map (fun t => mk2 (Tom.npair t))) := Lib.hid (by
            rw [HLl.out, List.take_of_length_le (by rw [HNN.out]; exact Nat.le_refl _)])
          clear HLl HX1 HX2
          obtain ⟨hlen0, hcase⟩ := hop
          rcases hcase with ⟨h0, h1⟩ | ⟨g, cap, cur, rfl, hbg, hgb, hnc, hcm, hcz, hct⟩
          · omega
          have hop3 : wr.ownsRow w1.heap.size 43 2 (.slice (some ⟨g, 0, none⟩) l.length cap) l.length (l.flatMap enc2) := ⟨hlen0, Or.inr ⟨g, cap, cur, rfl, hbg, hgb, hnc, hcm, hcz, hct⟩⟩
          have hglt : g < wr.heap.size := (World.ownsRow.lt hop3 g rfl).2
          have hH := holds_own l.toArray (by simpa using hop3)
          have HS := sort2 wr g cap l.toArray hH hglt (by rw [List.size_toArray]; omega)
          rw [List.size_toArray] at HS
          rw [hlk] at HS
          have HS := Lib.hid HS
          clear hlen0 hgb hnc hcm hcz hct hop3 hH
          go_wp2_with fail
          refine HS.out.mono ?_
          rintro e w5 ⟨rfl, d', hsz, hperm, hpw, hH5, hb5⟩
          have hMd : d'.toList.map back2 = M := HM.out d'.toList (by rw [← HF.out]; exact hperm) hpw
          have HCL := Lib.hid (fun i x hx => sorted_cell hH5 hMd i x hx)
          have hb15 : Below w1.heap.size w1 w5 := hbr.trans (hb5.mono hbg)
          have hg5 : g < w5.heap.size := Nat.lt_of_lt_of_le hglt hb5.size
          clear hsz hperm hpw hH5 hb5 hMd HS HF HM hbr hbs hlk hbg hglt
          go_wp2_with fail
          go_loopg [12, 107] (n0 + 1 + k) (fun gg a i wr' => ∃ (j av : Nat), j + gg = n0 + 1 + k ∧ a = .int .i64 av ∧ i = .int .i64 j ∧ Hid (CovR s.data.toList av (M.drop j)) ∧ Below w5.heap.size w5 wr')
          case atStart => exact ⟨0, 0, by omega, rfl, rfl, HC0, Below.refl _ _⟩
          case round =>
            clear HC0
            obtain ⟨j, av, hg, rfl, rfl, HCv, hbr⟩ := hrel
            by_cases hj : j < n0 + 1 + k
            · obtain ⟨x, hx1, hx2⟩ := HXM.out j hj
              have hcov := HCv.out
              rw [hx1] at hcov
              obtain ⟨q1, q2, q3, q4, q5⟩ := cov_step hcov
              rw [size_toList] at q3
              obtain ⟨cA, cB⟩ := HCL.out j x hx2
              rw [← hbr.cell (p := ⟨g, j * 2, none⟩) hg5] at cA
              rw [← hbr.cell (p := ⟨g, j * 2 + 1, none⟩) hg5] at cB
              have HTr := Lib.hid (fun w => trim_blank s av x.1 q4 (by omega) w hs)
              have HQ5 := Lib.hid q5
              have hB : Blk (wr.alloc (.cells #[.int .i64 (x.1 : Int), .int .i64 (x.2 : Int)] 43)) wr.heap.size 43 #[.int .i64 (x.1 : Int), .int .i64 (x.2 : Int)] := Blk.new _ _ _
              have f1 : ¬ ((x.1 : Int) < (av : Int)) := by omega
              have f2 : ¬ ((s.size : Int) < (x.2 : Int)) := by omega
              have f3 : (av : Int) ≤ (x.1 : Int) := by omega
              have f4 : (x.1 : Int) ≤ (s.size : Int) := by omega
              clear hcov hx1 hx2 q4 q5 HCv
              go_wp2_with fail
              refine (HTr.out _).mono ?_
              rintro e w6 ⟨rfl, hb6⟩
              have b1 := (hB.below hb6 hB.lt).at_ 1
              have hb56 : Below w5.heap.size w5 w6 := (hbr.alloc hbr.size _).trans (hb6.mono (hbr.alloc hbr.size _).size)
              clear hB cA cB f1 f2 f3 f4
              go_wp2_with fail
              go_roundg (n0 + 1 + k - (j + 1))
              case measure => omega
              case rel => exact ⟨j + 1, x.2, by omega, rfl, by go_num, HQ5, hb56⟩
            · obtain rfl : j = n0 + 1 + k := by omega
              have hcov := HCv.out
              rw [HME.out] at hcov
              have hav : av = s.size := by
                rcases hcov with ⟨_, h⟩ | h
                · rw [size_toList] at h; exact h
                · exact h.elim
              subst hav
              have hw7 : Below w.heap.size w wr := hb1.trans ((hb15.trans (hbr.mono hb15.size)).mono hb1.size)
              clear HCv hcov HME HXM HCL
              go_wp2_with fail
              refine (HW.out wr hw7).mono ?_
              rintro e w8 ⟨rfl, k8⟩
              obtain ⟨ga, rfl, ga0, c0, c1, c2, c3⟩ := (RA.keep ((hb15.trans (hbr.mono hb15.size)).trans (k8.mono (Nat.le_trans hb15.size hbr.size)))).tok n0 _ (by omega) HL.out
              have hw8 := hw7.trans (k8.mono hw7.size)
              clear c1 c2 c3
              go_wp2_with fail
              go_ret
              exact ⟨rfl, hw8⟩
end Go.Proofs.YtdhbljbfjdlcdaaDoor
