/-
  DigestParts: true at all parts of moderate bulk.
-/
import Derived.Test.YtlfhijdonejacaaLaw1
import Derived.Test.YtlfhijdonejacaaKit4
namespace Go.Proofs.Ytlfhijdonejacaa
open Go.RowKit
theorem join_empty (l : List ByteArray) : Lib.join (l.map (·.data.toList)) [] = catL l := by
  cases l with
  | nil => rfl
  | cons s l =>
    show Lib.join (s.data.toList :: l.map (·.data.toList)) [] = _
    rw [Lib.join_cons]
    simp [Lib.joinTail, catL, List.flatMap]
    rfl
theorem sjoin_any (l : List ByteArray) (v : Value) (w : World) (hv : StrRow w w.heap.size v l) (hl : (catL l).length + l.length ≤ 1048576) :
    Calls Try.prog 14 #[v, .string ⟨#[]⟩] w fun e w' => e = .returned (.string ⟨(catL l).toArray⟩) ∧ Below w.heap.size w w' := by
  obtain ⟨p, c, rfl, hc, hcell⟩ := hv
  by_cases h0 : l = []
  · subst h0
    refine (Try.strings_Join_none p c ⟨#[]⟩ w).mono ?_
    rintro e w' ⟨rfl, rfl⟩
    exact ⟨rfl, Below.refl _ _⟩
  · obtain ⟨g, o, rfl, hg, hcells⟩ := hcell h0
    have hj : Lib.join (l.map (·.data.toList)) (⟨#[]⟩ : ByteArray).data.toList = catL l := join_empty l
    refine (Try.strings_Join g o c l ⟨#[]⟩ w hcells hg (by omega) hc (by rw [hj]; omega)).mono ?_
    rintro e w' ⟨rfl, hb⟩
    rw [hj]
    exact ⟨rfl, hb⟩
set_option maxRecDepth 100000 in
set_option maxHeartbeats 4000000 in
theorem digestParts_any (l : List ByteArray) (v : Value) (w : World) (hv : StrRow w w.heap.size v l) (hl : (catL l).length + l.length ≤ 1048576) :
    Calls Try.prog 6 #[v] w fun e w' => e = .returned (.bool true) ∧ Below w.heap.size w w' := by
  have hv0 := hv
  obtain ⟨p, c, rfl, hc, hcell⟩ := hv
  by_cases hs : l.length ≤ 20
  · go_enter Try.func6, Try.ntmps6
    go_wp2_with fail
    refine (sjoin_any l _ w hv0 hl).mono ?_
    rintro e w0 ⟨rfl, hb0⟩
    have hv1 := hv0.below hb0 (Nat.le_refl _)
    by_cases hs2 : (catL l).length ≤ 2000
    · go_wp2_with fail
      refine (new_any w0).mono ?_
      rintro e w1 ⟨rfl, hb1⟩
      have hb1w : Below w.heap.size w w1 := hb0.trans (hb1.mono hb0.size)
      have hv2 := hv1.below hb1 (by have := hb0.size; omega)
      clear hb0 hb1 hv1 hv0 w0
      obtain ⟨c0, hc0, _, hc01⟩ := hash_open [] (.agg zeroRow) (.inr ⟨rfl, rfl⟩)
      have hvz : HashOf [] (.agg (rowOf 74 c0)) := hc0 ▸ .inr ⟨rfl, rfl⟩
      rw [hc0]
      clear hc0
      go_wp2_with (first
        | (with_reducible refine wpList_alloc_sym rfl 33 rfl _ zero33 ?_)
        | ((with_reducible refine wpList_store_all rfl 33 (.tmp 4) (.tmp 17) rfl rfl w1.heap.size 74 _ c0 33 size33 (fun j _ => hc01 j) ?_ ?_ (Blk.new _ _ _) ?_); exact rfl; exact rfl))
      have hB := (Blk.new w1 33 zeroRow).row (rowOf 74 c0)
      have hb := setRow_below ((hb1w.alloc hb1w.size (.cells zeroRow 33))) hb1w.size (rowOf 74 c0)
      have hG := hb1w.size
      generalize (w1.alloc (.cells zeroRow 33)).setRow w1.heap.size (rowOf 74 c0) = w2 at hB hb ⊢
      generalize w1.heap.size = G at *
      clear hb1w hv2 w1
      generalize decide (20 < (l.length : Int)) = b9
      generalize decide (2000 < ((catL l).length : Int)) = b15
      go_loopw [20] (fun i wr => ∃ (k : Nat) (cc : Nat → Value), k ≤ l.length ∧ i = .int .i64 k ∧ Blk wr G 33 (rowOf 74 cc) ∧ HashOf (catL (l.take k)) (.agg (rowOf 74 cc)) ∧ Below w.heap.size w wr) (fun i _ => l.length - (intOf i).toNat)
      case atStart => exact ⟨0, c0, by omega, rfl, hB, hvz, hb⟩
      case round =>
        clear hB hvz hb hc01
        obtain ⟨k, cc, hk, rfl, hB, hH, hb⟩ := hrel
        by_cases hlt : k < l.length
        · obtain ⟨g, o, rfl, hg, hcells⟩ := hcell (by intro h0; rw [h0] at hlt; exact absurd hlt (Nat.not_lt_zero _))
          obtain ⟨s, hs'⟩ : ∃ s, l[k]? = some s := ⟨l[k], List.getElem?_eq_getElem hlt⟩
          have hck : wr.cell? ⟨g, o + k, none⟩ = some (.string s) := by rw [hb.cell (by show g < w.heap.size; omega)]; exact hcells k s hs'
          have hsz : (catL (l.take k)).length + s.size ≤ (catL l).length := by
            have h1 := catL_take_le l (k + 1)
            rw [catL_succ l k s hs', List.length_append, size_toList] at h1
            exact h1
          go_wp2_with ((with_reducible refine wpList_load_seg rfl 33 (.tmp 4) rfl G 0 74 74 cc 33 _ Try.underlying33 rfl size33 (by omega) ?_ ?_ ?_); exact rfl; exact hB; simp only [Nat.zero_add])
          refine (write_any _ _ s wr (by omega) hH).mono ?_
          rintro e w3 ⟨v3, rfl, hv3, hb3⟩
          obtain ⟨c3, rfl, _, hc31⟩ := hash_open _ _ hv3
          have hB3 : Blk w3 G 33 (rowOf 74 cc) := hB.below hb3 hB.lt
          have hb3w : Below w.heap.size w w3 := hb.trans (hb3.mono (by have := hb.size; omega))
          clear hB hb hb3
          go_wp2_with ((with_reducible refine wpList_store_all rfl 33 (.tmp 4) (.tmp 26) rfl rfl G 74 cc c3 33 size33 (fun j _ => hc31 j) ?_ ?_ ?_ ?_); exact rfl; exact rfl; exact hB3)
          go_roundw
          case rel =>
            refine ⟨k + 1, c3, by omega, by go_num, hB3.row _, ?_, setRow_below hb3w hG _⟩
            rw [catL_succ l k s hs']
            exact hv3
          case measure => simp [intOf]; omega
        · have hkk : k = l.length := by omega
          rw [hkk, List.take_length] at hH
          clear hkk
          have hvr : StrRow wr w.heap.size (.slice p l.length c) l := ⟨p, c, rfl, hc, fun hne => by
            obtain ⟨g, o, h1, h2, h3⟩ := hcell hne
            exact ⟨g, o, h1, h2, fun j s hs => by rw [hb.cell (by show g < w.heap.size; omega)]; exact h3 j s hs⟩⟩
          go_wp2_with fail
          have hcat : catL [⟨(catL l).toArray⟩] = catL l := by simp [catL]
          have hlen : (catL [⟨(catL l).toArray⟩]).length < 288230376151711744 := by rw [hcat]; omega
          have hlen2 : (catL l).length < 288230376151711744 := by omega
          have hll : l.length < 288230376151711744 := by omega
          have hB0 : w.heap.size ≤ wr.heap.size := hb.size
          refine (awake_any wr).mono ?_
          rintro e w3 ⟨rfl, hb3⟩
          have h3 : w.heap.size ≤ w3.heap.size := by have := hb3.size; omega
          have hv3 := hvr.below hb3 hB0
          have hC3 := hB.below hb3 hB.lt
          have hw3 := hb.trans (hb3.mono hB0)
          clear hvr hB hb hb3 hB0
          go_wp2_with fail
          refine (dsum_any l _ w3 hlen2 hll (hv3.mono h3)).mono ?_
          rintro e w4 ⟨rfl, hb4⟩
          have h4 : w.heap.size ≤ w4.heap.size := by have := hb4.size; omega
          have hC4 := hC3.below hb4 hC3.lt
          have hw4 := hw3.trans (hb4.mono h3)
          clear hv3 hC3 hw3 hb4 h3
          go_wp2_with fail
          refine (dsum_any [⟨(catL l).toArray⟩] _ _ hlen (by show 1 < _; decide) (StrRow.row w4 _ [⟨(catL l).toArray⟩])).mono ?_
          rintro e w5 ⟨rfl, hb5⟩
          rw [hcat]
          have h4' := hw4.alloc h4 (.cells ((([⟨(catL l).toArray⟩] : List ByteArray).map Value.string).toArray) 9)
          have hC5 := (hC4.alloc (.cells ((([⟨(catL l).toArray⟩] : List ByteArray).map Value.string).toArray) 9)).below hb5 (by simp only [World.size_alloc]; have := hC4.lt; omega)
          have hw5 := h4'.trans (hb5.mono (by simp only [World.size_alloc]; omega))
          have h5 : w.heap.size ≤ w5.heap.size := hw5.size
          clear hC4 hw4 hb5 h4 h4'
          go_wp2_with ((with_reducible refine wpList_load_all_g 33 (.tmp 4) rfl G 74 cc 33 _ Try.underlying33 rfl size33 ?_ ?_ hC5 ?_); exact rfl; exact rfl)
          refine (hsum_any _ _ w5 hlen2 hH).mono ?_
          rintro e w6 ⟨rfl, hb6⟩
          have hw6 := hw5.trans (hb6.mono h5)
          clear hC5 hw5 hb6 h5
          go_wp2_with fail
          refine (dsum_any [⟨(catL l).toArray⟩] _ _ hlen (by show 1 < _; decide) (StrRow.row w6 _ [⟨(catL l).toArray⟩])).mono ?_
          rintro e w7 ⟨rfl, hb7⟩
          rw [hcat]
          have hw7 := (hw6.alloc hw6.size (.cells ((([⟨(catL l).toArray⟩] : List ByteArray).map Value.string).toArray) 9)).trans (hb7.mono (by simp only [World.size_alloc]; have := hw6.size; omega))
          clear hw6 hb7
          go_wp2_with fail
          go_ret
          exact ⟨rfl, hw7⟩
    · go_wp2_with fail
      refine (awake_any w0).mono ?_
      rintro e w1 ⟨rfl, hb1⟩
      go_wp2_with fail
      go_ret
      exact ⟨rfl, hb0.trans (hb1.mono hb0.size)⟩
  · go_enter Try.func6, Try.ntmps6
    go_wp2_with fail
    refine (awake_any w).mono ?_
    rintro e w1 ⟨rfl, hb1⟩
    go_wp2_with fail
    go_ret
    exact ⟨rfl, hb1⟩
end Go.Proofs.Ytlfhijdonejacaa
