/-
  DigestWrites: true at all parts of moderate bulk.
-/
import Derived.Test.YtlfhijdonejacaaLaw3
import Derived.Test.YtlfhijdonejacaaKit6
import Derived.Lib.Hide
import Derived.WideShapes
namespace Go.Proofs.Ytlfhijdonejacaa
open Go.RowKit
theorem hashRowE : ElemRow Try.prog 41 33 (.agg zeroRow) 74 112 := ⟨by kernel_rfl, by kernel_rfl, rfl, by decide⟩
set_option maxRecDepth 100000 in
set_option maxHeartbeats 4000000 in
theorem digestWrites_any (l : List ByteArray) (v : Value) (w : World) (hv : StrRow w w.heap.size v l) (hl : (catL l).length + l.length ≤ 1048576) :
    Calls Try.prog 7 #[v] w fun e w' => e = .returned (.bool true) ∧ Below w.heap.size w w' := by
  have hv0 := hv
  obtain ⟨p, c, rfl, hc, hcell⟩ := hv
  by_cases hs : l.length ≤ 10
  · by_cases hs2 : (catL l).length ≤ 600
    · go_enter Try.func7, Try.ntmps7
      go_wp2_with fail
      refine (sjoin_any l _ w hv0 hl).mono ?_
      rintro e w0 ⟨rfl, hb0⟩
      go_wp2_with fail
      refine (new_any w0).mono ?_
      rintro e w1 ⟨rfl, hb1⟩
      obtain ⟨c0, hc0, _, hc01⟩ := hash_open [] (.agg zeroRow) (.inr ⟨rfl, rfl⟩)
      have hvz : HashOf [] (.agg (rowOf 74 c0)) := hc0 ▸ .inr ⟨rfl, rfl⟩
      rw [hc0]
      clear hc0
      go_wp2_with ((with_reducible refine wpList_buildSlice_one rfl 41 _ rfl 33 (by kernel_rfl) zeroRow (rowOf 74 c0) 74 size33 zero33 ?_ (row_size _ _) (by decide) (by decide) ?_); exact rfl)
      have hown0 : OwnS (w1.alloc (.cells (rowOf 74 c0) 33)) w.heap.size 33 74 (.slice (some ⟨w1.heap.size, 0, none⟩) 1 1) 1 (fun _ => c0) := by
        have h := World.ownsRow_lit (base := w.heap.size) (e := 33) (size := 74) w1 (rowOf 74 c0) 1 (by have := hb0.size; have := hb1.size; omega) (by decide) (row_size _ _)
        unfold OwnS
        rw [rowsOf_succ]
        exact h
      have hb2 : Below w.heap.size w (w1.alloc (.cells (rowOf 74 c0) 33)) := (hb0.trans (hb1.mono hb0.size)).alloc (by have := hb0.size; have := hb1.size; omega) _
      generalize w1.alloc (.cells (rowOf 74 c0) 33) = w2 at hown0 hb2 ⊢
      clear hb0 hb1
      go_loopw [23, 3] (fun i v wr => ∃ (k : Nat) (cc : Nat → Nat → Value), k ≤ l.length ∧ i = .int .i64 k ∧ OwnS wr w.heap.size 33 74 v (k + 1) cc ∧ (∀ j, j ≤ k → HashOf (catL (l.take j)) (.agg (rowOf 74 (cc j))) ∧ ∀ q, (cc j q).oneCell' = true) ∧ Below w.heap.size w wr) (fun i _ _ => l.length - (intOf i).toNat)
      case atStart => exact ⟨0, _, by omega, rfl, hown0, fun j hj => ⟨by obtain rfl : j = 0 := by omega
                                                                         exact hvz, hc01⟩, hb2⟩
      case round =>
        clear hown0 hb2 hvz hc01
        obtain ⟨k, cc, hk, rfl, hown, hH, hb⟩ := hrel
        by_cases hlt : k < l.length
        · obtain ⟨g, o, rfl, hg, hcells⟩ := hcell (by intro h0; rw [h0] at hlt; exact absurd hlt (Nat.not_lt_zero _))
          obtain ⟨s, hs'⟩ : ∃ s, l[k]? = some s := ⟨l[k], List.getElem?_eq_getElem hlt⟩
          have hck : wr.cell? ⟨g, o + k, none⟩ = some (.string s) := by rw [hb.cell (by show g < w.heap.size; omega)]; exact hcells k s hs'
          have hsz : (catL (l.take k)).length + s.size ≤ (catL l).length := by
            have h1 := catL_take_le l (k + 1)
            rw [catL_succ l k s hs', List.length_append, size_toList] at h1
            exact h1
          obtain ⟨gh, caph, rfl, hcap, hbg, hgl⟩ := hown.form (by omega)
          go_wp2_with ((with_reducible refine wpList_load_cells rfl 33 (.tmp 32) rfl _ Try.underlying33 rfl 74 size33 gh (k * 74) (cc k) ?_ ?_ ?_); exact rfl; (intro j hj; exact hown.cell k j (by omega) hj))
          have hHk := hH k (by omega)
          refine (write_any (catL (l.take k)) (.agg (rowOf 74 (cc k))) s wr (by omega) hHk.1).mono ?_
          rintro e w3 ⟨v3, rfl, hv3, hb3⟩
          obtain ⟨c3, rfl, _, hc31⟩ := hash_open _ _ hv3
          have hown3 := hown.below hb3 (Nat.le_refl _)
          have hb3w : Below w.heap.size w w3 := hb.trans (hb3.mono hb.size)
          have HH := Lib.hid hH
          clear hown hb hb3 hH hHk
          go_wp2_with (first
            | ((with_reducible refine wpList_buildSlice_one rfl 41 _ rfl 33 (by kernel_rfl) zeroRow (rowOf 74 c3) 74 size33 zero33 ?_ (row_size _ _) (by decide) (by decide) ?_); exact rfl)
            | ((with_reducible refine wpList_push_struct rfl _ _ 41 rfl 33 (.agg zeroRow) 74 112 hashRowE w.heap.size _ (k + 1) cc w3.heap.size 1 33 c3 ?_ ?_ (OwnS.below hown3 (below_alloc _) (Nat.le_refl _)) (Blk.new _ _ _) (fun j _ => hc31 j) ?_ ?_ ?_ ?_); exact rfl; exact rfl; omega; omega; (simp only [World.size_alloc]; have := hb3w.size; omega)))
          intro v5 w5 hown5 hb5
          have hb6 : Below w.heap.size w w5 := (hb3w.alloc hb3w.size _).trans hb5
          have hH5 : Hid (∀ j, j ≤ k + 1 → HashOf (catL (l.take j)) (.agg (rowOf 74 ((fun j => if j = k + 1 then c3 else cc j) j))) ∧ ∀ q, ((fun j => if j = k + 1 then c3 else cc j) j q).oneCell' = true) := Lib.hid fun j hj => by
            by_cases he : j = k + 1
            · subst he
              simp only [if_pos]
              exact ⟨by rw [catL_succ l k s hs']; exact hv3, hc31⟩
            · simp only [if_neg he]
              exact HH.out j (by omega)
          go_wp2_with fail
          go_roundw
          case rel => exact ⟨k + 1, _, by omega, by go_num, hown5, hH5.out, hb6⟩
          case measure => simp [intOf]; omega
        · have hkk : k = l.length := by omega
          rw [hkk] at hown hH
          have HH := Lib.hid hH
          clear hkk hH
          obtain ⟨gh, caph, rfl, hcap, hbg, hgl⟩ := hown.form (by omega)
          go_wp2_with fail
          have hcl : ∀ i, (catL (l.take i)).length ≤ 600 := fun i => Nat.le_trans (catL_take_le l i) hs2
          generalize decide (10 < (l.length : Int)) = b11
          generalize decide (600 < ((catL l).length : Int)) = b16
          generalize (k : Int) = k23
          go_loopw [41, 6] (fun x y wr => ∃ i : Nat, i ≤ l.length + 1 ∧ x = .int .i64 i ∧ y = .string ⟨(catL (l.take (i - 1))).toArray⟩ ∧ OwnS wr w.heap.size 33 74 (.slice (some ⟨gh, 0, none⟩) (l.length + 1) caph) (l.length + 1) cc ∧ Below w.heap.size w wr) (fun x _ _ => l.length + 2 - (intOf x).toNat)
          case atStart => exact ⟨0, by omega, rfl, rfl, hown, hb⟩
          case round =>
            clear hown hb
            obtain ⟨i, hi, rfl, rfl, hown, hb⟩ := hrel
            have hcl1 := hcl i
            have hcl0 := hcl (i - 1)
            clear hcl
            by_cases hlt2 : i < l.length + 1
            · rcases Nat.eq_zero_or_pos i with rfl | hpos
              · have hB2 : Blk ((wr.alloc (.cells zeroRow 33)).setRow wr.heap.size (rowOf 74 (cc 0))) wr.heap.size 33 (rowOf 74 (cc 0)) := (Blk.new wr 33 zeroRow).row _
                have hb2 := setRow_below (hb.alloc hb.size (.cells zeroRow 33)) hb.size (rowOf 74 (cc 0))
                have hown2 : OwnS ((wr.alloc (.cells zeroRow 33)).setRow wr.heap.size (rowOf 74 (cc 0))) w.heap.size 33 74 (.slice (some ⟨gh, 0, none⟩) (l.length + 1) caph) (l.length + 1) cc := hown.below ((below_alloc _).trans (setRow_below (Below.refl _ _) (Nat.le_refl _) _)) (Nat.le_refl _)
                have hHi := HH.out 0 (by omega)
                go_wp2_with (first
                  | ((with_reducible refine wpList_load_cells rfl 33 (.tmp 44) rfl _ Try.underlying33 rfl 74 size33 gh 0 (cc 0) ?_ ?_ ?_); exact rfl; (intro q hq; exact (by have h := hown.cell 0 q (by omega) hq; rwa [Nat.zero_mul] at h)))
                  | (with_reducible refine wpList_alloc_sym rfl 33 rfl _ zero33 ?_)
                  | ((with_reducible refine wpList_store_all rfl 33 (.tmp 8) (.tmp 45) rfl rfl wr.heap.size 74 _ (cc 0) 33 size33 (fun q _ => hHi.2 q) ?_ ?_ (Blk.new _ _ _) ?_); exact rfl; exact rfl)
                  | ((with_reducible refine wpList_load_seg rfl 33 (.tmp 8) rfl wr.heap.size 0 74 74 (cc 0) 33 _ Try.underlying33 rfl size33 (by omega) ?_ ?_ ?_); exact rfl; exact hB2; simp only [Nat.zero_add]))
                generalize (wr.alloc (.cells zeroRow 33)).setRow wr.heap.size (rowOf 74 (cc 0)) = w2 at hB2 hb2 hown2 ⊢
                generalize wr.heap.size = G at *
                clear hown hb
                refine (hsum_any (catL (l.take 0)) _ w2 (by omega) hHi.1).mono ?_
                rintro e w3 ⟨rfl, hb3⟩
                have hB3 := hB2.below hb3 hB2.lt
                have hown3 := hown2.below hb3 (Nat.le_refl _)
                have hbb3 := hb2.trans (hb3.mono hb2.size)
                clear hB2 hown2 hb2 hb3
                go_wp2_with fail
                refine (rsum_any ⟨(catL (l.take 0)).toArray⟩ w3 (by show (List.toArray _).size < _; rw [List.size_toArray]; omega)).mono ?_
                rintro e w4 ⟨rfl, hb4⟩
                have hB4 := hB3.below hb4 hB3.lt
                have hown4 := hown3.below hb4 (Nat.le_refl _)
                have hbb4 := hbb3.trans (hb4.mono hbb3.size)
                clear hB3 hown3 hbb3 hb4
                go_wp2_with ((with_reducible refine wpList_load_all_g 33 (.tmp 8) rfl G 74 (cc 0) 33 _ Try.underlying33 rfl size33 ?_ ?_ hB4 ?_); exact rfl; exact rfl)
                refine (hsum_any (catL (l.take 0)) _ w4 (by omega) hHi.1).mono ?_
                rintro e w5 ⟨rfl, hb5⟩
                have hown5 := hown4.below hb5 (Nat.le_refl _)
                have hbb5 := hbb4.trans (hb5.mono hbb4.size)
                clear hB4 hown4 hbb4 hb5
                go_wp2_with fail
                refine (rsum_any ⟨(catL (l.take 0)).toArray⟩ w5 (by show (List.toArray _).size < _; rw [List.size_toArray]; omega)).mono ?_
                rintro e w6 ⟨rfl, hb6⟩
                have hown6 := hown5.below hb6 (Nat.le_refl _)
                have hbb6 := hbb5.trans (hb6.mono hbb5.size)
                clear hown5 hbb5 hb6
                go_wp2_with fail
                go_roundw
                case rel => exact ⟨0 + 1, by omega, by go_num, rfl, hown6, hbb6⟩
                case measure => simp [intOf]
              · obtain ⟨j, rfl⟩ : ∃ j, i = j + 1 := ⟨i - 1, by omega⟩
                rw [Nat.add_sub_cancel] at hcl0 ⊢
                obtain ⟨g, o, rfl, hg, hcells⟩ := hcell (by intro h0; rw [h0] at hlt2; simp at hlt2)
                obtain ⟨s, hs'⟩ : ∃ s, l[j]? = some s := ⟨l[j]'(by omega), List.getElem?_eq_getElem (by omega)⟩
                have hsz : (catL (l.take j)).length + s.size ≤ 600 := by
                  rw [catL_succ l j s hs', List.length_append, size_toList] at hcl1
                  exact hcl1
                have hB2 : Blk ((wr.alloc (.cells zeroRow 33)).setRow wr.heap.size (rowOf 74 (cc (j + 1)))) wr.heap.size 33 (rowOf 74 (cc (j + 1))) := (Blk.new wr 33 zeroRow).row _
                have hb2 := setRow_below (hb.alloc hb.size (.cells zeroRow 33)) hb.size (rowOf 74 (cc (j + 1)))
                have hown2 : OwnS ((wr.alloc (.cells zeroRow 33)).setRow wr.heap.size (rowOf 74 (cc (j + 1)))) w.heap.size 33 74 (.slice (some ⟨gh, 0, none⟩) (l.length + 1) caph) (l.length + 1) cc := hown.below ((below_alloc _).trans (setRow_below (Below.refl _ _) (Nat.le_refl _) _)) (Nat.le_refl _)
                have hHi := HH.out (j + 1) (by omega)
                have hck : ((wr.alloc (.cells zeroRow 33)).setRow wr.heap.size (rowOf 74 (cc (j + 1)))).cell? ⟨g, o + j, none⟩ = some (.string s) := by
                  rw [hb2.cell (by show g < w.heap.size; omega)]
                  exact hcells j s hs'
                have happ : (⟨(catL (l.take j)).toArray⟩ : ByteArray) ++ s = ⟨(catL (l.take (j + 1))).toArray⟩ := by
                  rw [catL_succ l j s hs']
                  refine Go.WideShapes.bytes_inj ?_
                  rw [ByteArray.data_append]
                  simp
                have HAPP := Lib.hid happ
                clear happ
                go_wp2_with (first
                  | ((with_reducible refine wpList_load_cells rfl 33 (.tmp 44) rfl _ Try.underlying33 rfl 74 size33 gh ((j + 1) * 74) (cc (j + 1)) ?_ ?_ ?_); exact rfl; (intro q hq; exact (hown.cell (j + 1) q (by omega) hq)))
                  | (with_reducible refine wpList_alloc_sym rfl 33 rfl _ zero33 ?_)
                  | ((with_reducible refine wpList_store_all rfl 33 (.tmp 8) (.tmp 45) rfl rfl wr.heap.size 74 _ (cc (j + 1)) 33 size33 (fun q _ => hHi.2 q) ?_ ?_ (Blk.new _ _ _) ?_); exact rfl; exact rfl)
                  | ((with_reducible refine wpList_load_seg rfl 33 (.tmp 8) rfl wr.heap.size 0 74 74 (cc (j + 1)) 33 _ Try.underlying33 rfl size33 (by omega) ?_ ?_ ?_); exact rfl; exact hB2; simp only [Nat.zero_add])
                  | ((with_reducible refine wpList_str_add rfl 9 9 _ _ rfl ⟨(catL (l.take j)).toArray⟩ s ?_ ?_ ?_ ?_); exact rfl; exact rfl; (show (List.toArray _).size + _ ≤ _; rw [List.size_toArray]; omega); rw [HAPP.out]))
                generalize (wr.alloc (.cells zeroRow 33)).setRow wr.heap.size (rowOf 74 (cc (j + 1))) = w2 at hB2 hb2 hown2 hck ⊢
                generalize wr.heap.size = G at *
                clear hown hb
                refine (hsum_any (catL (l.take (j + 1))) _ w2 (by omega) hHi.1).mono ?_
                rintro e w3 ⟨rfl, hb3⟩
                have hB3 := hB2.below hb3 hB2.lt
                have hown3 := hown2.below hb3 (Nat.le_refl _)
                have hbb3 := hb2.trans (hb3.mono hb2.size)
                clear hB2 hown2 hb2 hb3
                go_wp2_with fail
                refine (rsum_any ⟨(catL (l.take (j + 1))).toArray⟩ w3 (by show (List.toArray _).size < _; rw [List.size_toArray]; omega)).mono ?_
                rintro e w4 ⟨rfl, hb4⟩
                have hB4 := hB3.below hb4 hB3.lt
                have hown4 := hown3.below hb4 (Nat.le_refl _)
                have hbb4 := hbb3.trans (hb4.mono hbb3.size)
                clear hB3 hown3 hbb3 hb4
                go_wp2_with ((with_reducible refine wpList_load_all_g 33 (.tmp 8) rfl G 74 (cc (j + 1)) 33 _ Try.underlying33 rfl size33 ?_ ?_ hB4 ?_); exact rfl; exact rfl)
                refine (hsum_any (catL (l.take (j + 1))) _ w4 (by omega) hHi.1).mono ?_
                rintro e w5 ⟨rfl, hb5⟩
                have hown5 := hown4.below hb5 (Nat.le_refl _)
                have hbb5 := hbb4.trans (hb5.mono hbb4.size)
                clear hB4 hown4 hbb4 hb5
                go_wp2_with fail
                refine (rsum_any ⟨(catL (l.take (j + 1))).toArray⟩ w5 (by show (List.toArray _).size < _; rw [List.size_toArray]; omega)).mono ?_
                rintro e w6 ⟨rfl, hb6⟩
                have hown6 := hown5.below hb6 (Nat.le_refl _)
                have hbb6 := hbb5.trans (hb6.mono hbb5.size)
                clear hown5 hbb5 hb6
                go_wp2_with fail
                go_roundw
                case rel => exact ⟨j + 1 + 1, by omega, by go_num, rfl, hown6, hbb6⟩
                case measure => simp [intOf]; omega
            · go_wp2_with fail
              refine (awake_any wr).mono ?_
              rintro e w3 ⟨rfl, hb3⟩
              go_wp2_with fail
              go_ret
              exact ⟨rfl, hb.trans (hb3.mono hb.size)⟩
    · go_enter Try.func7, Try.ntmps7
      go_wp2_with fail
      refine (sjoin_any l _ w hv0 hl).mono ?_
      rintro e w0 ⟨rfl, hb0⟩
      go_wp2_with fail
      refine (awake_any w0).mono ?_
      rintro e w1 ⟨rfl, hb1⟩
      go_wp2_with fail
      go_ret
      exact ⟨rfl, hb0.trans (hb1.mono hb0.size)⟩
  · go_enter Try.func7, Try.ntmps7
    go_wp2_with fail
    refine (awake_any w).mono ?_
    rintro e w1 ⟨rfl, hb1⟩
    go_wp2_with fail
    go_ret
    exact ⟨rfl, hb1⟩
end Go.Proofs.Ytlfhijdonejacaa
