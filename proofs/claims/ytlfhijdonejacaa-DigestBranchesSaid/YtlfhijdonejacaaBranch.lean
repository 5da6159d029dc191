/-
  DigestBranches: true at every three strings.
-/
import Derived.Test.YtlfhijdonejacaaLaw1
import Derived.Test.YtlfhijdonejacaaKit5
namespace Go.Proofs.Ytlfhijdonejacaa
open Go.RowKit
theorem catL_two (s t : ByteArray) : catL [s, t] = s.data.toList ++ t.data.toList := by simp [catL]
set_option maxRecDepth 100000 in
set_option maxHeartbeats 4000000 in
theorem digestBranches_any (a b c : ByteArray) (wa : a.size ≤ 140737488351232) (wb : b.size ≤ 140737488351232) (wc : c.size ≤ 140737488351232) (w : World) :
    Calls Try.prog 5 #[.string a, .string b, .string c] w fun e w' => e = .returned (.bool true) ∧ Below w.heap.size w w' := by
  by_cases hs : a.size + b.size + c.size ≤ 1000
  · go_enter Try.func5, Try.ntmps5
    go_wp2_with fail
    refine (new_any w).mono ?_
    rintro e w1 ⟨rfl, hb1⟩
    have hv0 : HashOf [] (.agg zeroRow) := .inr ⟨rfl, rfl⟩
    generalize Value.agg zeroRow = vz at *
    go_wp2_with fail
    refine (write_any [] vz a w1 (by simp only [List.length_nil]; omega) hv0).mono ?_
    rintro e w2 ⟨v2, rfl, hv2, hb2⟩
    rw [List.nil_append] at hv2
    have hb2w : Below w.heap.size w w2 := hb1.trans (hb2.mono hb1.size)
    obtain ⟨c2, rfl, _, hc21⟩ := hash_open _ _ hv2
    clear hb1 hb2
    go_wp2_with (first
      | (with_reducible refine wpList_alloc_sym rfl 33 rfl _ zero33 ?_)
      | ((with_reducible refine wpList_store_all rfl 33 (.tmp 7) (.tmp 22) rfl rfl w2.heap.size 74 _ c2 33 size33 (fun j _ => hc21 j) ?_ ?_ (Blk.new _ _ _) ?_); exact rfl; exact rfl))
    have hB := (Blk.new w2 33 zeroRow).row (rowOf 74 c2)
    have hb3 := setRow_below (hb2w.alloc hb2w.size (.cells zeroRow 33)) hb2w.size (rowOf 74 c2)
    have hG := hb2w.size
    generalize (w2.alloc (.cells zeroRow 33)).setRow w2.heap.size (rowOf 74 c2) = w3 at hB hb3 ⊢
    generalize w2.heap.size = G at *
    clear hb2w
    have hst : St 33 w [(G, rowOf 74 c2)] w3 := ⟨hb3, by simp, fun x hx => by
      obtain rfl : x = (G, rowOf 74 c2) := by simpa using hx
      exact ⟨hG, hB⟩⟩
    refine wp_region_held (S := fun w' => ∃ L, St 33 w L w' ∧ (G, rowOf 74 c2) ∈ L) (by kernel_rfl) ?_
    have hst0 : St 33 w [(G, rowOf 74 c2)] w3.drew := hst.step (Below.refl _ _).drew
    change wpAnyH _ _ _ _ _ 10 #[false, false, false, false, false, false, false, false, false, false] _ w3.drew
    generalize w3.drew = x0 at hst0 ⊢
    clear hst hB hb3
    have hS0 : ∃ L, St 33 w L x0 ∧ (G, rowOf 74 c2) ∈ L := ⟨_, hst0, by simp⟩
    have hSB : ∀ w', (∃ L, St 33 w L w' ∧ (G, rowOf 74 c2) ∈ L) → Blk w' G 33 (rowOf 74 c2) := fun w' ⟨L, h, hm⟩ => (h.2.2 _ hm).2
    refine wpAnyH_take (i := 0) (oi := ⟨some 23, _, _, _, _, _⟩) rfl (by kernel_rfl) (by kernel_rfl) (by kernel_rfl) (fun _ _ _ h => h) (yields_load rfl 33 (.tmp 7) rfl G 74 c2 33 _ Try.underlying33 rfl size33 rfl hSB) hS0 ?_
    simp only [Act.put, List.setIfInBounds_toArray, List.set_cons_succ, List.set_cons_zero]
    refine wpAnyH_take (i := 1) (oi := ⟨some 24, _, _, _, _, _⟩) rfl (by kernel_rfl) (by kernel_rfl) (by kernel_rfl) (fun _ _ _ h => h) (yields_move rfl (.tmp 1) rfl (.string b) rfl) hS0 ?_
    simp only [Act.put, List.setIfInBounds_toArray, List.set_cons_succ, List.set_cons_zero]
    refine wpAnyH_take (i := 3) (oi := ⟨some 26, _, _, _, _, _⟩) rfl (by kernel_rfl) (by kernel_rfl) (by kernel_rfl) (fun _ _ _ h => h) (yields_load rfl 33 (.tmp 7) rfl G 74 c2 33 _ Try.underlying33 rfl size33 rfl hSB) hS0 ?_
    simp only [Act.put, List.setIfInBounds_toArray, List.set_cons_succ, List.set_cons_zero]
    refine wpAnyH_take (i := 4) (oi := ⟨some 27, _, _, _, _, _⟩) rfl (by kernel_rfl) (by kernel_rfl) (by kernel_rfl) (fun _ _ _ h => h) (yields_move rfl (.tmp 2) rfl (.string c) rfl) hS0 ?_
    simp only [Act.put, List.setIfInBounds_toArray, List.set_cons_succ, List.set_cons_zero]
    refine wpAnyH_setQ fun Q hQ => ?_
    have hbb : a.data.toList.length + b.size < 1152921504606846976 := by rw [size_toList]; omega
    have hcc : a.data.toList.length + c.size < 1152921504606846976 := by rw [size_toList]; omega
    suffices hK : ∀ (p8 p9 : Nat) (c3 c4 : Nat → Value) (x : World), HashOf (a.data.toList ++ b.data.toList) (.agg (rowOf 74 c3)) → HashOf (a.data.toList ++ c.data.toList) (.agg (rowOf 74 c4)) →
        Blk x G 33 (rowOf 74 c2) → Blk x p8 33 (rowOf 74 c3) → Blk x p9 33 (rowOf 74 c4) → Below w.heap.size w x →
        Q .normal ⟨#[Value.string a, Value.string b, Value.string c, undef, undef, undef, Value.bool false, Value.pointer (some { block := G, off := 0 }), Value.pointer (some { block := p8, off := 0 }), Value.pointer (some { block := p9, off := 0 }), Value.string a, Value.int IntKind.i64 ↑a.size, Value.string b, Value.int IntKind.i64 ↑b.size, Value.int IntKind.i64 (↑a.size + ↑b.size), Value.string c, Value.int IntKind.i64 ↑c.size, Value.int IntKind.i64 (↑a.size + ↑b.size + ↑c.size), Value.bool (decide (1000 < (a.size : Int) + ↑b.size + ↑c.size)), undef, vz, Value.string a, Value.agg (rowOf 74 c2), Value.agg (rowOf 74 c2), Value.string b, Value.agg (rowOf 74 c3), Value.agg (rowOf 74 c2), Value.string c, Value.agg (rowOf 74 c4), undef, undef, undef, undef, undef, undef, undef, undef, undef, undef, undef, undef, undef, undef, undef, undef, undef, undef, undef, undef, undef, undef, undef, undef, undef, undef, undef], []⟩ x by
      have hst := hst0
      clear hQ hS0 hst0
      repeat' (first
        | (refine wpAnyH_all (rs := [2, 6, 7]) (by decide +kernel) (by decide) ?_; intro i hi; simp only [List.mem_cons, List.not_mem_nil, or_false] at hi; rcases hi with rfl | rfl | rfl)
        | (refine wpAnyH_all (rs := [5, 6, 7]) (by decide +kernel) (by decide) ?_; intro i hi; simp only [List.mem_cons, List.not_mem_nil, or_false] at hi; rcases hi with rfl | rfl | rfl)
        | (refine wpAnyH_all (rs := [2, 7]) (by decide +kernel) (by decide) ?_; intro i hi; simp only [List.mem_cons, List.not_mem_nil, or_false] at hi; rcases hi with rfl | rfl)
        | (refine wpAnyH_all (rs := [2, 6]) (by decide +kernel) (by decide) ?_; intro i hi; simp only [List.mem_cons, List.not_mem_nil, or_false] at hi; rcases hi with rfl | rfl)
        | (refine wpAnyH_all (rs := [5, 7]) (by decide +kernel) (by decide) ?_; intro i hi; simp only [List.mem_cons, List.not_mem_nil, or_false] at hi; rcases hi with rfl | rfl)
        | (refine wpAnyH_all (rs := [5, 6]) (by decide +kernel) (by decide) ?_; intro i hi; simp only [List.mem_cons, List.not_mem_nil, or_false] at hi; rcases hi with rfl | rfl)
        | (refine wpAnyH_all (rs := [6, 7]) (by decide +kernel) (by decide) ?_; intro i hi; simp only [List.mem_cons, List.not_mem_nil, or_false] at hi; rcases hi with rfl | rfl)
        | (refine wpAnyH_all (rs := [2]) (by decide +kernel) (by decide) ?_; intro i hi; simp only [List.mem_cons, List.not_mem_nil, or_false] at hi; subst hi)
        | (refine wpAnyH_all (rs := [5]) (by decide +kernel) (by decide) ?_; intro i hi; simp only [List.mem_cons, List.not_mem_nil, or_false] at hi; subst hi)
        | (refine wpAnyH_all (rs := [6]) (by decide +kernel) (by decide) ?_; intro i hi; simp only [List.mem_cons, List.not_mem_nil, or_false] at hi; subst hi)
        | (refine wpAnyH_all (rs := [7]) (by decide +kernel) (by decide) ?_; intro i hi; simp only [List.mem_cons, List.not_mem_nil, or_false] at hi; subst hi)
        | (refine wpAnyH_all (rs := [8]) (by decide +kernel) (by decide) ?_; intro i hi; simp only [List.mem_cons, List.not_mem_nil, or_false] at hi; subst hi)
        | (refine op_alloc (i := 6) (o := ⟨some 8, _, _, _, _, _⟩) rfl rfl 33 rfl zeroRow zero33 ?_; replace hst := St.alloc hst zeroRow; refine ⟨⟨_, hst, by simp⟩, ?_⟩; simp only [Act.put, List.setIfInBounds_toArray, List.set_cons_succ, List.set_cons_zero])
        | (refine op_alloc (i := 7) (o := ⟨some 9, _, _, _, _, _⟩) rfl rfl 33 rfl zeroRow zero33 ?_; replace hst := St.alloc hst zeroRow; refine ⟨⟨_, hst, by simp⟩, ?_⟩; simp only [Act.put, List.setIfInBounds_toArray, List.set_cons_succ, List.set_cons_zero])
        | (refine op_call (i := 2) (o := ⟨some 25, _, _, _, _, _⟩) rfl rfl _ rfl 12 rfl (fun _ _ => by kernel_rfl) #[.agg (rowOf 74 c2), .string b] rfl ?_; refine (write_any _ _ b _ hbb hv2).mono ?_; rintro e x' ⟨v3, rfl, hv3, hbx⟩; obtain ⟨c3, rfl, _, hc3⟩ := hash_open _ _ hv3; replace hst := St.step hst hbx; clear hbx; refine ⟨_, rfl, ⟨_, hst, by simp⟩, ?_⟩; simp only [Act.put, List.setIfInBounds_toArray, List.set_cons_succ, List.set_cons_zero])
        | (refine op_call (i := 5) (o := ⟨some 28, _, _, _, _, _⟩) rfl rfl _ rfl 12 rfl (fun _ _ => by kernel_rfl) #[.agg (rowOf 74 c2), .string c] rfl ?_; refine (write_any _ _ c _ hcc hv2).mono ?_; rintro e x' ⟨v3, rfl, hv4, hbx⟩; obtain ⟨c4, rfl, _, hc4⟩ := hash_open _ _ hv4; replace hst := St.step hst hbx; clear hbx; refine ⟨_, rfl, ⟨_, hst, by simp⟩, ?_⟩; simp only [Act.put, List.setIfInBounds_toArray, List.set_cons_succ, List.set_cons_zero]))
      all_goals
        obtain ⟨n1, n2, n3, kB, kA, kG, lB, lA, lG, hbl⟩ := St.three hst
        clear hst
      all_goals first
        | (refine op_store (i := 8) (o := ⟨none, _, _, _, _, _⟩) rfl rfl 33 (.tmp 8) (.tmp 25) rfl rfl _ 74 _ c3 33 size33 (fun j _ => hc3 j) rfl rfl kA ?_; have kG' := kG.row_other (Ne.symm n3) (rowOf 74 c3); have k8 := kA.row (rowOf 74 c3); have k9 := kB.row_other n1 (rowOf 74 c3); have hb9 := setRow_below hbl lA (rowOf 74 c3); have m1 := Ne.symm n2; have m2 := Ne.symm n1; have l9 := lB)
        | (refine op_store (i := 8) (o := ⟨none, _, _, _, _, _⟩) rfl rfl 33 (.tmp 8) (.tmp 25) rfl rfl _ 74 _ c3 33 size33 (fun j _ => hc3 j) rfl rfl kB ?_; have kG' := kG.row_other (Ne.symm n2) (rowOf 74 c3); have k8 := kB.row (rowOf 74 c3); have k9 := kA.row_other (Ne.symm n1) (rowOf 74 c3); have hb9 := setRow_below hbl lB (rowOf 74 c3); have m1 := Ne.symm n3; have m2 := n1; have l9 := lA)
      all_goals
        refine ⟨⟨[(G, rowOf 74 c2)], ⟨hb9, by simp, fun y hy => by
          obtain rfl : y = (G, rowOf 74 c2) := by simpa using hy
          exact ⟨lG, kG'⟩⟩, by simp⟩, ?_⟩
        refine wpAnyH_all (rs := [9]) (by decide +kernel) (by decide) ?_
        intro i hi
        simp only [List.mem_cons, List.not_mem_nil, or_false] at hi
        subst hi
        refine op_store (i := 9) (o := ⟨none, _, _, _, _, _⟩) rfl rfl 33 (.tmp 9) (.tmp 28) rfl rfl _ 74 _ c4 33 size33 (fun j _ => hc4 j) rfl rfl k9 ?_
        have kG2 := kG'.row_other m1 (rowOf 74 c4)
        have k82 := k8.row_other m2 (rowOf 74 c4)
        have hb2 := setRow_below hb9 l9 (rowOf 74 c4)
        refine ⟨⟨[(G, rowOf 74 c2)], ⟨hb2, by simp, fun y hy => by
          obtain rfl : y = (G, rowOf 74 c2) := by simpa using hy
          exact ⟨lG, kG2⟩⟩, by simp⟩, ?_⟩
        refine wpAnyH_done (by decide +kernel) ?_ _
        exact hK _ _ c3 c4 _ hv3 hv4 kG2 k82 (k9.row _) hb2
    subst hQ
    clear hS0 hSB hst0 x0 hbb hcc hv0
    intro p8 p9 c3 c4 x hv3 hv4 kG k8 k9 hbx
    go_wp2_with fail
    have hstep : ∀ {u u' : World}, (Blk u G 33 (rowOf 74 c2) ∧ Blk u p8 33 (rowOf 74 c3) ∧ Blk u p9 33 (rowOf 74 c4) ∧ Below w.heap.size w u) → Below u.heap.size u u' →
        (Blk u' G 33 (rowOf 74 c2) ∧ Blk u' p8 33 (rowOf 74 c3) ∧ Blk u' p9 33 (rowOf 74 c4) ∧ Below w.heap.size w u') :=
      fun h hb => ⟨h.1.below hb h.1.lt, h.2.1.below hb h.2.1.lt, h.2.2.1.below hb h.2.2.1.lt, h.2.2.2.trans (hb.mono h.2.2.2.size)⟩
    have hR := And.intro kG (And.intro k8 (And.intro k9 hbx))
    clear kG k8 k9 hbx hG
    refine (awake_any x).mono ?_
    rintro e y ⟨rfl, hby⟩
    replace hR := hstep hR hby
    clear hby
    go_wp2_with ((with_reducible refine wpList_load_all_g 33 (.tmp 8) rfl p8 74 c3 33 _ Try.underlying33 rfl size33 ?_ ?_ hR.2.1 ?_); exact rfl; exact rfl)
    refine (hsum_any (a.data.toList ++ b.data.toList) _ _ (by simp only [List.length_append, size_toList]; omega) hv3).mono ?_
    rintro e y ⟨rfl, hby⟩
    replace hR := hstep hR hby
    clear hby
    go_wp2_with fail
    refine (dsum_any [a, b] _ _ (by rw [catL_two]; simp only [List.length_append, size_toList]; omega) (by simp) (StrRow.row _ _ [a, b])).mono ?_
    rintro e y ⟨rfl, hby⟩
    rw [catL_two]
    replace hR := hstep (hstep hR (below_alloc _)) hby
    clear hby
    go_wp2_with ((with_reducible refine wpList_load_all_g 33 (.tmp 9) rfl p9 74 c4 33 _ Try.underlying33 rfl size33 ?_ ?_ hR.2.2.1 ?_); exact rfl; exact rfl)
    refine (hsum_any (a.data.toList ++ c.data.toList) _ _ (by simp only [List.length_append, size_toList]; omega) hv4).mono ?_
    rintro e y ⟨rfl, hby⟩
    replace hR := hstep hR hby
    clear hby
    go_wp2_with fail
    refine (dsum_any [a, c] _ _ (by rw [catL_two]; simp only [List.length_append, size_toList]; omega) (by simp) (StrRow.row _ _ [a, c])).mono ?_
    rintro e y ⟨rfl, hby⟩
    rw [catL_two]
    replace hR := hstep (hstep hR (below_alloc _)) hby
    clear hby
    go_wp2_with ((with_reducible refine wpList_load_all_g 33 (.tmp 7) rfl G 74 c2 33 _ Try.underlying33 rfl size33 ?_ ?_ hR.1 ?_); exact rfl; exact rfl)
    refine (hsum_any (a.data.toList) _ _ (by simp only [size_toList]; omega) hv2).mono ?_
    rintro e y ⟨rfl, hby⟩
    replace hR := hstep hR hby
    clear hby
    go_wp2_with fail
    refine (dsum_any [a] _ _ (by rw [catL_one]; simp only [size_toList]; omega) (by simp) (StrRow.row _ _ [a])).mono ?_
    rintro e y ⟨rfl, hby⟩
    rw [catL_one]
    replace hR := hstep (hstep hR (below_alloc _)) hby
    clear hby
    go_wp2_with fail
    go_ret
    exact ⟨rfl, hR.2.2.2⟩
  · go_enter Try.func5, Try.ntmps5
    go_wp2_with fail
    refine (awake_any w).mono ?_
    rintro e w1 ⟨rfl, hb1⟩
    go_wp2_with fail
    go_ret
    exact ⟨rfl, hb1⟩
end Go.Proofs.Ytlfhijdonejacaa
