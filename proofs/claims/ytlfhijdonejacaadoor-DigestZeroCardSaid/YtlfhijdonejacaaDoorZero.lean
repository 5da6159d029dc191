/-
  DigestZero: true at every string.
-/
import Derived.Test.YtlfhijdonejacaaDoorLaw0
import Derived.Test.YtlfhijdonejacaaDoorKit4
import Derived.Lib.Hide
import Derived.Shelf.Strings.SlTrimAscii
namespace Go.Proofs.YtlfhijdonejacaaDoor
open Go.RowKit Go.Shelf
theorem hexOf_digit (wd : Nat → Int) (n : Nat) : ∀ c ∈ hexOf wd n, hexDigits.contains c = true := by
  intro c hc
  obtain ⟨i, _, hi⟩ := List.mem_flatMap.1 hc
  obtain ⟨k, _, rfl⟩ := List.mem_map.1 hi
  have h : ∀ m, m < 16 → hexDigits.contains (hexDigits.getD m 0) = true := by decide
  exact h _ (Nat.mod_lt _ (by decide))
theorem trim_all (l cs : List UInt8) (h : ∀ c ∈ l, cs.contains c = true) : Lib.trimS l cs = [] := by
  have e : l.reverse.dropWhile (cs.contains ·) = [] := by
    have g : ∀ m : List UInt8, (∀ c ∈ m, cs.contains c = true) → m.dropWhile (cs.contains ·) = [] := by
      intro m hm
      induction m with
      | nil => rfl
      | cons c m ih =>
        rw [List.dropWhile_cons, if_pos (hm c (by simp))]
        exact ih fun d hd => hm d (by simp [hd])
    exact g _ fun c hc => h c (List.mem_reverse.1 hc)
  unfold Lib.trimS Lib.trimRightS
  rw [e]
  rfl
theorem catL_one (s : ByteArray) : catL [s] = s.data.toList := by simp [catL]
theorem trim_hex (L : List UInt8) (w : World) :
    Calls Tryd.prog 8 #[.string ⟨(sha L).toArray⟩, .string ⟨#[48, 49, 50, 51, 52, 53, 54, 55, 56, 57, 97, 98, 99, 100, 101, 102]⟩] w fun e w' => e = .returned (.string ⟨#[]⟩) ∧ Below w.heap.size w w' := by
  have hcon := Any.strings_Trim_laid Tryd.lays160 (by kernel_rfl) ⟨(sha L).toArray⟩ ⟨#[48, 49, 50, 51, 52, 53, 54, 55, 56, 57, 97, 98, 99, 100, 101, 102]⟩ w (by show (List.toArray _).size ≤ _; rw [List.size_toArray]; unfold sha; rw [hexOf_length]; decide) (by decide) (fun j b hb => (show ∀ c ∈ hexDigits, c.toNat < 128 by decide) b (List.mem_of_getElem? hb))
  have e : Lib.trimS (⟨(sha L).toArray⟩ : ByteArray).data.toList (⟨#[48, 49, 50, 51, 52, 53, 54, 55, 56, 57, 97, 98, 99, 100, 101, 102]⟩ : ByteArray).data.toList = [] := trim_all (sha L) hexDigits (hexOf_digit _ _)
  rw [e] at hcon
  exact hcon
set_option maxRecDepth 100000 in
set_option maxHeartbeats 4000000 in
theorem digestZero_any (s : ByteArray) (w : World) :
    Calls Tryd.prog 3 #[.string s] w fun e w' => e = .returned (.bool true) ∧ Below w.heap.size w w' := by
  by_cases hs : s.size ≤ 1000
  · obtain ⟨c0, hc0, _, hc01⟩ := hash_open [] (.agg zeroRow) (.inr ⟨rfl, rfl⟩)
    have hvz : HashOf [] (.agg (rowOf 74 c0)) := hc0 ▸ .inr ⟨rfl, rfl⟩
    have hz0 : (Tryd.prog.info? 28).bind (·.zero) = some (.agg (rowOf 74 c0)) := by rw [← hc0]; exact zero33
    have hlen : (⟨(sha s.data.toList).toArray⟩ : ByteArray).size = 64 := by show (List.toArray _).size = _; rw [List.size_toArray]; unfold sha; rw [hexOf_length]
    have hT := fun w' => trim_hex s.data.toList w'
    have hD := fun w' v hv => dsum_any [s] v w' (by rw [catL_one, size_toList]; omega) (by show 1 < _; decide) hv
    rw [catL_one] at hD
    have hW := fun w' v hv => hsum_any s.data.toList v w' (by rw [size_toList]; omega) hv
    generalize (⟨(sha s.data.toList).toArray⟩ : ByteArray) = t at *
    have hlen2 : ((t.size : Int) == 64) = true := by rw [beq_iff_eq]; omega
    have HT := Lib.hid hT
    have HD := Lib.hid hD
    have HW := Lib.hid hW
    have HZ := Lib.hid hz0
    clear hT hD hW hlen hc0 hz0
    go_enter Tryd.func3, Tryd.ntmps3
    go_wp2_with (first
      | (with_reducible refine wpList_alloc_sym rfl 28 rfl (rowOf 74 c0) HZ.out ?_)
      | ((with_reducible refine wpList_load_seg rfl 28 (.tmp 3) rfl w.heap.size 0 74 74 c0 28 _ Tryd.underlying28 rfl size33 (by omega) ?_ ?_ ?_); exact rfl; exact Blk.new _ _ _; simp only [Nat.zero_add]))
    have hB := Blk.new w 28 (rowOf 74 c0)
    have hb := below_alloc (w := w) (.cells (rowOf 74 c0) 28)
    generalize w.alloc (.cells (rowOf 74 c0) 28) = w1 at hB hb ⊢
    refine (write_any [] (.agg (rowOf 74 c0)) s w1 (by show 0 + _ < _; omega) hvz).mono ?_
    rintro e w2 ⟨v2, rfl, hv2, hb2⟩
    rw [List.nil_append] at hv2
    have hB2 := hB.below hb2 hB.lt
    replace hb := hb.trans (hb2.mono hb.size)
    clear hB hb2
    go_wp2_with fail
    refine (HW.out w2 v2 hv2).mono ?_
    rintro e w3 ⟨rfl, hb3⟩
    have hB3 := hB2.below hb3 hB2.lt
    replace hb := hb.trans (hb3.mono hb.size)
    clear hB2 hb3
    go_wp2_with fail
    refine (awake_any w3).mono ?_
    rintro e w4 ⟨rfl, hb4⟩
    have hB4 := hB3.below hb4 hB3.lt
    replace hb := hb.trans (hb4.mono hb.size)
    clear hB3 hb4
    go_wp2_with fail
    refine (HD.out _ _ (StrRow.row w4 _ [s])).mono ?_
    rintro e w5 ⟨rfl, hb5⟩
    have hB5 := (hB4.alloc (.cells ((([s] : List ByteArray).map Value.string).toArray) 9)).below hb5 (by simp only [World.size_alloc]; have := hB4.lt; omega)
    replace hb := (hb.alloc hb.size (.cells ((([s] : List ByteArray).map Value.string).toArray) 9)).trans (hb5.mono (by simp only [World.size_alloc]; have := hb.size; omega))
    clear hB4 hb5
    go_wp2_with fail
    refine (HT.out w5).mono ?_
    rintro e w6 ⟨rfl, hb6⟩
    have hB6 := hB5.below hb6 hB5.lt
    replace hb := hb.trans (hb6.mono hb.size)
    clear hB5 hb6
    go_wp2_with ((with_reducible refine wpList_load_all_g 28 (.tmp 3) rfl w.heap.size 74 c0 28 _ Tryd.underlying28 rfl size33 ?_ ?_ hB6 ?_); exact rfl; exact rfl)
    refine (hsum_any [] _ w6 (by decide) hvz).mono ?_
    rintro e w7 ⟨rfl, hb7⟩
    replace hb := hb.trans (hb7.mono hb.size)
    clear hB6 hb7
    go_wp2_with fail
    refine (dsum_any [⟨#[]⟩] _ _ (by decide) (by show 1 < _; decide) (StrRow.row w7 _ [⟨#[]⟩])).mono ?_
    rintro e w8 ⟨rfl, hb8⟩
    replace hb := (hb.alloc hb.size (.cells ((([⟨#[]⟩] : List ByteArray).map Value.string).toArray) 9)).trans (hb8.mono (by simp only [World.size_alloc]; have := hb.size; omega))
    rw [show catL [⟨#[]⟩] = [] from rfl]
    clear hb8
    go_wp2_with fail
    go_ret
    exact ⟨rfl, hb⟩
  · go_enter Tryd.func3, Tryd.ntmps3
    go_wp2_with fail
    refine (awake_any w).mono ?_
    rintro e w1 ⟨rfl, hb1⟩
    go_wp2_with fail
    go_ret
    exact ⟨rfl, hb1⟩
end Go.Proofs.YtlfhijdonejacaaDoor
