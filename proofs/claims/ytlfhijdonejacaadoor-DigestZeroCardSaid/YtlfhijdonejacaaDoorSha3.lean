/-
  digest.New, digest.start, Hash.Write by their contracts.
-/
import Derived.Test.YtlfhijdonejacaaDoorSha2
import Derived.WalkSpells
import Derived.Lib.Hide
import Derived.Lib.IndexBytes
namespace Go.Proofs.YtlfhijdonejacaaDoor
open Go.RowKit
theorem zero33 : (Tryd.prog.info? 28).bind (·.zero) = some (.agg zeroRow) := by kernel_rfl
theorem size33 : (Tryd.prog.info? 28).map (·.size) = some 74 := by kernel_rfl
theorem size31 : (Tryd.prog.info? 26).map (·.size) = some 64 := by kernel_rfl
theorem size5 : (Tryd.prog.info? 5).map (·.size) = some 1 := by kernel_rfl
theorem under26 : Tryd.prog.underlying 36 = some (.slice 5) := by kernel_rfl
theorem under31 : Tryd.prog.underlying 26 = some (.array 64 5) := by kernel_rfl
set_option maxRecDepth 100000 in
set_option maxHeartbeats 400000 in
theorem start_any (w : World)  :
    Calls Tryd.prog 10 #[] w fun e w' => e = .returned (.agg (arrOf .u32 8 hAt)) ∧ Below w.heap.size w w' := by
  go_enter Tryd.func10, Tryd.ntmps10
  go_wp2_with (first | (with_reducible refine wpList_alloc_sym rfl 24 rfl _ zeroH ?_) | ((with_reducible refine wpList_build_sym rfl 24 _ rfl (arrOf .u32 8 hAt) ?_ ?_); kernel_rfl) | ((with_reducible refine wpList_store_arr rfl 24 (.tmp 0) (.tmp 1) rfl rfl w.heap.size .u32 8 hAt 24 _ sizeH ?_ ?_ (Blk.new _ _ _) (arr_size _ _ _) ?_); exact rfl; exact rfl))
  exact bodyPost_ret (results_arr rfl _ _ w.heap.size 24 .u32 8 hAt 23 underH sizeH rfl (Blk.row (Blk.new _ _ _) _)) rfl ⟨rfl, setRow_below (below_alloc _) (Nat.le_refl _) _⟩
set_option maxRecDepth 100000 in
set_option maxHeartbeats 400000 in
theorem new_any (w : World)  :
    Calls Tryd.prog 13 #[] w fun e w' => e = .returned (.agg zeroRow) ∧ Below w.heap.size w w' := by
  go_enter Tryd.func13, Tryd.ntmps13
  go_wp2_with (first | (with_reducible refine wpList_alloc_sym rfl 28 rfl _ zero33 ?_) | ((with_reducible refine wpList_build_sym rfl 28 #[] rfl zeroRow ?_ ?_); kernel_rfl) | ((with_reducible refine wpList_store_all rfl 28 (.tmp 0) (.tmp 1) rfl rfl w.heap.size 74 _ (hcell false (fun _ => 0) 0 (fun _ => 0)) 28 size33 (fun j _ => hcell_one _ _ _ _ j) ?_ ?_ (Blk.new _ _ _) ?_); exact rfl; exact rfl))
  exact bodyPost_ret (results_row rfl _ w.heap.size 28 74 _ _ Tryd.underlying28 rfl size33 rfl (Blk.row (Blk.new _ _ _) _)) rfl ⟨rfl, setRow_below (below_alloc _) (Nat.le_refl _) _⟩
def HBlk (w : World) (B : Nat) (L : List UInt8) : Prop := ∃ tl, TailOf L tl ∧ Blk w B 28 (hashRow L tl)
def WritePost (w : World) (L : List UInt8) (e : Ending) (w' : World) : Prop := ∃ v, e = .returned v ∧ HashOf L v ∧ Below w.heap.size w w'
def strOf : Value → ByteArray | .string s => s | _ => ByteArray.empty
theorem strOf_lt (r : ByteArray) (n : Nat) (h : 0 < n) (hn : n ≤ r.size) : (strOf (.string (r.extract n r.size))).size < (strOf (.string r)).size := by
  simp only [strOf, ByteArray.size_extract]
  omega
set_option maxRecDepth 100000 in
set_option maxHeartbeats 4000000 in
/-- Write: the Hash of the bytes so far followed by s. -/
theorem write_any (L : List UInt8) (v : Value) (s : ByteArray) (w : World) (hL : L.length + s.size < 1152921504606846976) (hv : HashOf L v) :
    Calls Tryd.prog 5 #[v, .string s] w (WritePost w (L ++ s.data.toList)) := by
  rcases hv with ⟨tl, htl, rfl⟩ | ⟨hL0, rfl⟩
  · go_enter Tryd.func5, Tryd.ntmps5
    have hB0 : ∀ o, Blk ((w.alloc (.cells (hashRow L tl) 28)).alloc o) w.heap.size 28 (hashRow L tl) := fun o => (Blk.new _ _ _).alloc o
    have c0 : ∀ o, ((w.alloc (.cells (hashRow L tl) 28)).alloc o).cell? ⟨w.heap.size, 0, none⟩ = some (.bool true) := fun o => (hB0 o).get (by omega)
    go_wp2_with (first | (with_reducible refine wpList_alloc_sym rfl 28 rfl _ zero33 ?_))
    have hB1 : HBlk ((w.alloc (.cells (hashRow L tl) 28)).alloc (.cells zeroRow 28)) w.heap.size L := ⟨tl, htl, hB0 _⟩
    have hR1 : Blk ((w.alloc (.cells (hashRow L tl) 28)).alloc (.cells zeroRow 28)) (w.heap.size + 1) 28 zeroRow := by
      have := Blk.new (w.alloc (.cells (hashRow L tl) 28)) 28 zeroRow
      simpa using this
    have hb1 : Below w.heap.size w ((w.alloc (.cells (hashRow L tl) 28)).alloc (.cells zeroRow 28)) := (below_alloc _).alloc (by simp) _
    generalize (w.alloc (.cells (hashRow L tl) 28)).alloc (.cells zeroRow 28) = w1 at hB1 hR1 hb1 ⊢
    clear hB0 c0 htl
    go_loopw [1] (fun v wr => ∃ (M : List UInt8) (r : ByteArray), v = .string r ∧ M ++ r.data.toList = L ++ s.data.toList ∧ HBlk wr w.heap.size M ∧ Blk wr (w.heap.size + 1) 28 zeroRow ∧ Below w.heap.size w wr) (fun v _ => (strOf v).size)
    case atStart => exact ⟨L, s, rfl, rfl, hB1, hR1, hb1⟩
    case round =>
      clear hB1 hR1 hb1
      obtain ⟨M, r, rfl, hM, ⟨tl', htl, hB⟩, hR, hb⟩ := hrel
      have hlen : M.length + r.size = L.length + s.size := by
        have := congrArg List.length hM
        simpa [size_toList] using this
      by_cases h0 : r.size = 0
      · have hne : r.toList.isEmpty = true := by
          rw [ByteArray.toList_eq]
          cases hh : r.data.toList with
          | nil => rfl
          | cons a l => exact absurd (by rw [← size_toList, hh]; simp) (show ¬ ¬ r.size = 0 from fun h => h h0)
        have hML : M = L ++ s.data.toList := by
          rw [← hM]
          have : r.data.toList = [] := by rw [ByteArray.toList_eq] at hne; simpa using hne
          rw [this, List.append_nil]
        have HML := Lib.hid hML
        clear hML hM
        go_wp2_with (first
          | ((with_reducible refine wpList_load_seg rfl 28 (.tmp 2) rfl w.heap.size 0 74 74 (hcell true (wordsN M (M.length / 64)) M.length tl') 28 _ Tryd.underlying28 rfl size33 (by omega) ?_ ?_ ?_); exact rfl; exact hB; simp only [Nat.zero_add])
          | ((with_reducible refine wpList_store_all rfl 28 (.tmp 4) (.tmp 43) rfl rfl (w.heap.size + 1) 74 (hcell false (fun _ => 0) 0 (fun _ => 0)) (hcell true (wordsN M (M.length / 64)) M.length tl') 28 size33 (fun j _ => hcell_one _ _ _ _ j) ?_ ?_ ?_ ?_); exact rfl; exact rfl; exact hR))
        refine bodyPost_ret (results_row rfl _ (w.heap.size + 1) 28 74 (hcell true (wordsN M (M.length / 64)) M.length tl') _ Tryd.underlying28 rfl size33 rfl (hR.row _)) rfl ⟨_, rfl, Or.inl ⟨tl', ?_, ?_⟩, setRow_below hb (by omega) _⟩
        · rw [← HML.out]; exact htl
        · rw [← HML.out]; rfl
      · have hne : r.toList.isEmpty = false := by
          rw [ByteArray.toList_eq]
          cases hh : r.data.toList with
          | nil => exact absurd (by rw [← size_toList, hh]; rfl) h0
          | cons _ _ => rfl
        have c9 : wr.cell? ⟨w.heap.size, 9, none⟩ = some (.int .u64 M.length) := hB.get (by omega)
        obtain ⟨n, hn⟩ : ∃ n, n = min r.size (64 - M.length % 64) := ⟨_, rfl⟩
        have hfit : 10 + M.length % 64 + min r.size (64 - M.length % 64) ≤ 74 := by omega
        have hn1 : n ≤ r.size := by omega
        have hn2 : M.length % 64 + n ≤ 64 := by omega
        have hn3 : 0 < n := by omega
        have HN : Hid (n = min r.size (64 - M.length % 64)) := hn
        clear hn
        have hg : ∀ w2 : World, Blk w2 w.heap.size 28 (rowOf 74 (hcell true (wordsN M (M.length / 64)) M.length (tailPut tl' (M.length % 64) n r.data.toList))) → Blk (w2.setCell ⟨w.heap.size, 9, none⟩ (.int .u64 (↑M.length + ↑n))) w.heap.size 28 (rowOf 74 (hcell true (wordsN M (M.length / 64)) (↑M.length + ↑n) (tailPut tl' (M.length % 64) n r.data.toList))) := by
          intro w2 h
          have := Blk.put1 h (i := 9) (by omega) (.int .u64 (↑M.length + ↑n))
          rw [hcell_size] at this
          exact this
        have HG := Lib.hid hg
        clear hg
        have hlen2 : (M ++ r.data.toList.take n).length = M.length + n := by simp; omega
        have HL := Lib.hid hlen2
        clear hlen2
        have hM2 : M ++ r.data.toList.take n ++ (r.extract n r.size).data.toList = L ++ s.data.toList := by
          rw [Lib.extract_to_end, List.append_assoc, List.take_append_drop]; exact hM
        have HM := Lib.hid hM2
        clear hM2 hM
        by_cases hfull : M.length % 64 + n = 64
        · have ht : (((M.length : Int) % 64 + n) == 64) = true := by simp; omega
          have HF := Lib.hid hfull
          clear hfull
          go_wp2_with (first
          | ((with_reducible refine wpList_slice_arr_lo rfl 26 (.tmp 19) (.tmp 20) rfl 64 5 under31 size5 w.heap.size 10 (M.length % 64) (Nat.mod_lt _ (by decide)) ?_ ?_ ?_); exact rfl; exact rfl)
          | ((with_reducible refine wpList_copy_str rfl (.tmp 21) (.tmp 22) 36 9 rfl 5 under26 size5 w.heap.size (10 + M.length % 64) 74 (64 - M.length % 64) (64 - M.length % 64) r (hcell true (wordsN M (M.length / 64)) M.length tl') 28 ?_ ?_ ?_ ?_ ?_); exact rfl; exact rfl; exact hB; exact hfit; rw [hcell_tail, ← HN.out]; have hB2 := Blk.row hB (rowOf 74 (hcell true (wordsN M (M.length / 64)) M.length (tailPut tl' (M.length % 64) n r.data.toList))); have hR2 := Blk.row_other hR (show w.heap.size + 1 ≠ w.heap.size by omega) (rowOf 74 (hcell true (wordsN M (M.length / 64)) M.length (tailPut tl' (M.length % 64) n r.data.toList))); have hb2 := setRow_below hb (Nat.le_refl _) (rowOf 74 (hcell true (wordsN M (M.length / 64)) M.length (tailPut tl' (M.length % 64) n r.data.toList))); generalize wr.setRow w.heap.size (rowOf 74 (hcell true (wordsN M (M.length / 64)) M.length (tailPut tl' (M.length % 64) n r.data.toList))) = w2 at hB2 hR2 hb2 ⊢; have c9' : w2.cell? ⟨w.heap.size, 9, none⟩ = some (.int .u64 M.length) := hB2.get (by omega); have f9' := hB2.free 9)
          | ((with_reducible refine wpList_load_seg rfl 24 (.tmp 37) rfl w.heap.size 1 74 8 (hcell true (wordsN M (M.length / 64)) (↑M.length + ↑n) (tailPut tl' (M.length % 64) n r.data.toList)) 28 _ underH rfl sizeH (by omega) ?_ ?_ ?_); exact rfl; exact HG.out _ hB2; rw [hcell_get_words])
          | ((with_reducible refine wpList_load_seg rfl 26 (.tmp 39) rfl w.heap.size 10 74 64 (hcell true (wordsN M (M.length / 64)) (↑M.length + ↑n) (tailPut tl' (M.length % 64) n r.data.toList)) 28 _ under31 rfl size31 (by omega) ?_ ?_ ?_); exact rfl; exact HG.out _ hB2; rw [hcell_get_tail]))
          refine (block_any _ _ _ (tailPut_bd _ _ _ _ htl.2) (wordsN_bd _ _)).mono ?_
          rintro e w3 ⟨rfl, hb3⟩
          have hlt2 := hB2.lt
          have hB3 : Blk w3 w.heap.size 28 (rowOf 74 (hcell true (wordsN M (M.length / 64)) (↑M.length + ↑n) (tailPut tl' (M.length % 64) n r.data.toList))) := (HG.out _ hB2).below hb3 (by simpa using hlt2)
          have hR3 : Blk w3 (w.heap.size + 1) 28 zeroRow := (hR2.set_other (a := ⟨w.heap.size, 9, none⟩) (by show w.heap.size + 1 ≠ w.heap.size; omega) _).below hb3 (by have := hR2.lt; simpa using this)
          have hb4 : Below w.heap.size w w3 := (hb2.setCell (p := ⟨w.heap.size, 9, none⟩) (Nat.le_refl _) _).trans (hb3.mono (by simp; omega))
          go_wp2_with ((with_reducible refine wpList_store_seg rfl 24 (.tmp 42) (.tmp 41) rfl rfl w.heap.size 1 74 8 (hcell true (wordsN M (M.length / 64)) (↑M.length + ↑n) (tailPut tl' (M.length % 64) n r.data.toList)) (fun j => .int .u32 (shaBlock (wordsN M (M.length / 64)) (tailPut tl' (M.length % 64) n r.data.toList) j)) 28 sizeH (by omega) (fun _ _ => rfl) ?_ ?_ ?_ ?_); exact rfl; exact rfl; exact hB3; rw [hcell_words, hashRow_full M r.data.toList tl' n htl (by rw [size_toList]; exact hn1) HF.out])
          go_roundw
          case rel => exact ⟨_, _, rfl, HM.out, ⟨_, (tail_full M r.data.toList tl' n htl (by rw [size_toList]; exact hn1) HF.out).2, hB3.row _⟩, hR3.row_other (by omega) _, setRow_below hb4 (Nat.le_refl _) _⟩
          case measure => exact strOf_lt r n hn3 hn1
        · have ht : (((M.length : Int) % 64 + n) == 64) = false := by simp; omega
          have HF := Lib.hid hfull
          clear hfull
          go_wp2_with (first
          | ((with_reducible refine wpList_slice_arr_lo rfl 26 (.tmp 19) (.tmp 20) rfl 64 5 under31 size5 w.heap.size 10 (M.length % 64) (Nat.mod_lt _ (by decide)) ?_ ?_ ?_); exact rfl; exact rfl)
          | ((with_reducible refine wpList_copy_str rfl (.tmp 21) (.tmp 22) 36 9 rfl 5 under26 size5 w.heap.size (10 + M.length % 64) 74 (64 - M.length % 64) (64 - M.length % 64) r (hcell true (wordsN M (M.length / 64)) M.length tl') 28 ?_ ?_ ?_ ?_ ?_); exact rfl; exact rfl; exact hB; exact hfit; rw [hcell_tail, ← HN.out]; have hB2 := Blk.row hB (rowOf 74 (hcell true (wordsN M (M.length / 64)) M.length (tailPut tl' (M.length % 64) n r.data.toList))); have hR2 := Blk.row_other hR (show w.heap.size + 1 ≠ w.heap.size by omega) (rowOf 74 (hcell true (wordsN M (M.length / 64)) M.length (tailPut tl' (M.length % 64) n r.data.toList))); have hb2 := setRow_below hb (Nat.le_refl _) (rowOf 74 (hcell true (wordsN M (M.length / 64)) M.length (tailPut tl' (M.length % 64) n r.data.toList))); generalize wr.setRow w.heap.size (rowOf 74 (hcell true (wordsN M (M.length / 64)) M.length (tailPut tl' (M.length % 64) n r.data.toList))) = w2 at hB2 hR2 hb2 ⊢; have c9' : w2.cell? ⟨w.heap.size, 9, none⟩ = some (.int .u64 M.length) := hB2.get (by omega); have f9' := hB2.free 9))
          go_roundw
          case rel =>
            have hB3 := HG.out _ hB2
            rw [hashRow_step M r.data.toList tl' n (by rw [size_toList]; exact hn1) (by have := HF.out; omega)] at hB3
            exact ⟨_, _, rfl, HM.out, ⟨_, tail_step M r.data.toList tl' n htl (by rw [size_toList]; exact hn1) (by have := HF.out; omega), hB3⟩, hR2.set_other (a := ⟨w.heap.size, 9, none⟩) (by show w.heap.size + 1 ≠ w.heap.size; omega) _, hb2.setCell (p := ⟨w.heap.size, 9, none⟩) (Nat.le_refl _) _⟩
          case measure => exact strOf_lt r n hn3 hn1
  · have HL0 := Lib.hid hL0
    clear hL0
    go_enter Tryd.func5, Tryd.ntmps5
    have hB0 : ∀ o, Blk ((w.alloc (.cells zeroRow 28)).alloc o) w.heap.size 28 zeroRow := fun o => (Blk.new _ _ _).alloc o
    have c0 : ∀ o, ((w.alloc (.cells zeroRow 28)).alloc o).cell? ⟨w.heap.size, 0, none⟩ = some (.bool false) := fun o => (hB0 o).get (by omega)
    go_wp2_with (first | (with_reducible refine wpList_alloc_sym rfl 28 rfl _ zero33 ?_))
    refine (start_any _).mono ?_
    rintro e w2 ⟨rfl, hb2⟩
    have hB1 := (hB0 (.cells zeroRow 28)).below hb2 (by simp; omega)
    have hR1 : Blk w2 (w.heap.size + 1) 28 zeroRow := by
      have := (Blk.new (w.alloc (.cells zeroRow 28)) 28 zeroRow).below hb2 (by simp)
      simpa using this
    have hb1 : Below w.heap.size w w2 := ((below_alloc _).alloc (by simp) _).trans (hb2.mono (by simp; omega))
    have c0' := hB1.get (j := 0) (by omega)
    have f0' := hB1.free 0
    clear c0 hB0 hb2
    have hB2 : Blk (w2.setCell ⟨w.heap.size, 0, none⟩ (.bool true)) w.heap.size 28 (rowOf 74 (hcell true (fun _ => 0) 0 (fun _ => 0))) := by
      have := Blk.put1 hB1 (i := 0) (by omega) (.bool true)
      rw [hcell_begun] at this
      exact this
    have HB2 := Lib.hid hB2
    clear hB2
    go_wp2_with ((with_reducible refine wpList_store_seg rfl 24 (.tmp 12) (.tmp 10) rfl rfl w.heap.size 1 74 8 (hcell true (fun _ => 0) 0 (fun _ => 0)) (fun j => .int .u32 (hAt j)) 28 sizeH (by omega) (fun _ _ => rfl) ?_ ?_ ?_ ?_); exact rfl; exact rfl; exact HB2.out; rw [hcell_words])
    have hB3 : HBlk ((w2.setCell ⟨w.heap.size, 0, none⟩ (.bool true)).setRow w.heap.size (rowOf 74 (hcell true hAt 0 fun _ => 0))) w.heap.size L := by
      refine ⟨fun _ => 0, ⟨fun j hj => ?_, fun _ => ⟨Int.le_refl 0, (by decide : (0 : Int) < 256)⟩⟩, ?_⟩
      · rw [HL0.out] at hj; simp at hj
      · rw [HL0.out]; exact HB2.out.row _
    have hR3 : Blk ((w2.setCell ⟨w.heap.size, 0, none⟩ (.bool true)).setRow w.heap.size (rowOf 74 (hcell true hAt 0 fun _ => 0))) (w.heap.size + 1) 28 zeroRow := (hR1.set_other (a := ⟨w.heap.size, 0, none⟩) (by show w.heap.size + 1 ≠ w.heap.size; omega) _).row_other (by omega) _
    have hb3 : Below w.heap.size w ((w2.setCell ⟨w.heap.size, 0, none⟩ (.bool true)).setRow w.heap.size (rowOf 74 (hcell true hAt 0 fun _ => 0))) := setRow_below (hb1.setCell (p := ⟨w.heap.size, 0, none⟩) (Nat.le_refl _) _) (Nat.le_refl _) _
    clear HB2 c0' f0' hB1 hR1 hb1
    generalize (w2.setCell ⟨w.heap.size, 0, none⟩ (.bool true)).setRow w.heap.size (rowOf 74 (hcell true hAt 0 fun _ => 0)) = w1 at hB3 hR3 hb3 ⊢
    have hB1 := hB3
    have hR1 := hR3
    have hb1 := hb3
    clear hB3 hR3 hb3
    go_loopw [1] (fun v wr => ∃ (M : List UInt8) (r : ByteArray), v = .string r ∧ M ++ r.data.toList = L ++ s.data.toList ∧ HBlk wr w.heap.size M ∧ Blk wr (w.heap.size + 1) 28 zeroRow ∧ Below w.heap.size w wr) (fun v _ => (strOf v).size)
    case atStart => exact ⟨L, s, rfl, rfl, hB1, hR1, hb1⟩
    case round =>
      clear hB1 hR1 hb1
      obtain ⟨M, r, rfl, hM, ⟨tl', htl, hB⟩, hR, hb⟩ := hrel
      have hlen : M.length + r.size = L.length + s.size := by
        have := congrArg List.length hM
        simpa [size_toList] using this
      by_cases h0 : r.size = 0
      · have hne : r.toList.isEmpty = true := by
          rw [ByteArray.toList_eq]
          cases hh : r.data.toList with
          | nil => rfl
          | cons a l => exact absurd (by rw [← size_toList, hh]; simp) (show ¬ ¬ r.size = 0 from fun h => h h0)
        have hML : M = L ++ s.data.toList := by
          rw [← hM]
          have : r.data.toList = [] := by rw [ByteArray.toList_eq] at hne; simpa using hne
          rw [this, List.append_nil]
        have HML := Lib.hid hML
        clear hML hM
        go_wp2_with (first
          | ((with_reducible refine wpList_load_seg rfl 28 (.tmp 2) rfl w.heap.size 0 74 74 (hcell true (wordsN M (M.length / 64)) M.length tl') 28 _ Tryd.underlying28 rfl size33 (by omega) ?_ ?_ ?_); exact rfl; exact hB; simp only [Nat.zero_add])
          | ((with_reducible refine wpList_store_all rfl 28 (.tmp 4) (.tmp 43) rfl rfl (w.heap.size + 1) 74 (hcell false (fun _ => 0) 0 (fun _ => 0)) (hcell true (wordsN M (M.length / 64)) M.length tl') 28 size33 (fun j _ => hcell_one _ _ _ _ j) ?_ ?_ ?_ ?_); exact rfl; exact rfl; exact hR))
        refine bodyPost_ret (results_row rfl _ (w.heap.size + 1) 28 74 (hcell true (wordsN M (M.length / 64)) M.length tl') _ Tryd.underlying28 rfl size33 rfl (hR.row _)) rfl ⟨_, rfl, Or.inl ⟨tl', ?_, ?_⟩, setRow_below hb (by omega) _⟩
        · rw [← HML.out]; exact htl
        · rw [← HML.out]; rfl
      · have hne : r.toList.isEmpty = false := by
          rw [ByteArray.toList_eq]
          cases hh : r.data.toList with
          | nil => exact absurd (by rw [← size_toList, hh]; rfl) h0
          | cons _ _ => rfl
        have c9 : wr.cell? ⟨w.heap.size, 9, none⟩ = some (.int .u64 M.length) := hB.get (by omega)
        obtain ⟨n, hn⟩ : ∃ n, n = min r.size (64 - M.length % 64) := ⟨_, rfl⟩
        have hfit : 10 + M.length % 64 + min r.size (64 - M.length % 64) ≤ 74 := by omega
        have hn1 : n ≤ r.size := by omega
        have hn2 : M.length % 64 + n ≤ 64 := by omega
        have hn3 : 0 < n := by omega
        have HN : Hid (n = min r.size (64 - M.length % 64)) := hn
        clear hn
        have hg : ∀ w2 : World, Blk w2 w.heap.size 28 (rowOf 74 (hcell true (wordsN M (M.length / 64)) M.length (tailPut tl' (M.length % 64) n r.data.toList))) → Blk (w2.setCell ⟨w.heap.size, 9, none⟩ (.int .u64 (↑M.length + ↑n))) w.heap.size 28 (rowOf 74 (hcell true (wordsN M (M.length / 64)) (↑M.length + ↑n) (tailPut tl' (M.length % 64) n r.data.toList))) := by
          intro w2 h
          have := Blk.put1 h (i := 9) (by omega) (.int .u64 (↑M.length + ↑n))
          rw [hcell_size] at this
          exact this
        have HG := Lib.hid hg
        clear hg
        have hlen2 : (M ++ r.data.toList.take n).length = M.length + n := by simp; omega
        have HL := Lib.hid hlen2
        clear hlen2
        have hM2 : M ++ r.data.toList.take n ++ (r.extract n r.size).data.toList = L ++ s.data.toList := by
          rw [Lib.extract_to_end, List.append_assoc, List.take_append_drop]; exact hM
        have HM := Lib.hid hM2
        clear hM2 hM
        by_cases hfull : M.length % 64 + n = 64
        · have ht : (((M.length : Int) % 64 + n) == 64) = true := by simp; omega
          have HF := Lib.hid hfull
          clear hfull
          go_wp2_with (first
          | ((with_reducible refine wpList_slice_arr_lo rfl 26 (.tmp 19) (.tmp 20) rfl 64 5 under31 size5 w.heap.size 10 (M.length % 64) (Nat.mod_lt _ (by decide)) ?_ ?_ ?_); exact rfl; exact rfl)
          | ((with_reducible refine wpList_copy_str rfl (.tmp 21) (.tmp 22) 36 9 rfl 5 under26 size5 w.heap.size (10 + M.length % 64) 74 (64 - M.length % 64) (64 - M.length % 64) r (hcell true (wordsN M (M.length / 64)) M.length tl') 28 ?_ ?_ ?_ ?_ ?_); exact rfl; exact rfl; exact hB; exact hfit; rw [hcell_tail, ← HN.out]; have hB2 := Blk.row hB (rowOf 74 (hcell true (wordsN M (M.length / 64)) M.length (tailPut tl' (M.length % 64) n r.data.toList))); have hR2 := Blk.row_other hR (show w.heap.size + 1 ≠ w.heap.size by omega) (rowOf 74 (hcell true (wordsN M (M.length / 64)) M.length (tailPut tl' (M.length % 64) n r.data.toList))); have hb2 := setRow_below hb (Nat.le_refl _) (rowOf 74 (hcell true (wordsN M (M.length / 64)) M.length (tailPut tl' (M.length % 64) n r.data.toList))); generalize wr.setRow w.heap.size (rowOf 74 (hcell true (wordsN M (M.length / 64)) M.length (tailPut tl' (M.length % 64) n r.data.toList))) = w2 at hB2 hR2 hb2 ⊢; have c9' : w2.cell? ⟨w.heap.size, 9, none⟩ = some (.int .u64 M.length) := hB2.get (by omega); have f9' := hB2.free 9)
          | ((with_reducible refine wpList_load_seg rfl 24 (.tmp 37) rfl w.heap.size 1 74 8 (hcell true (wordsN M (M.length / 64)) (↑M.length + ↑n) (tailPut tl' (M.length % 64) n r.data.toList)) 28 _ underH rfl sizeH (by omega) ?_ ?_ ?_); exact rfl; exact HG.out _ hB2; rw [hcell_get_words])
          | ((with_reducible refine wpList_load_seg rfl 26 (.tmp 39) rfl w.heap.size 10 74 64 (hcell true (wordsN M (M.length / 64)) (↑M.length + ↑n) (tailPut tl' (M.length % 64) n r.data.toList)) 28 _ under31 rfl size31 (by omega) ?_ ?_ ?_); exact rfl; exact HG.out _ hB2; rw [hcell_get_tail]))
          refine (block_any _ _ _ (tailPut_bd _ _ _ _ htl.2) (wordsN_bd _ _)).mono ?_
          rintro e w3 ⟨rfl, hb3⟩
          have hlt2 := hB2.lt
          have hB3 : Blk w3 w.heap.size 28 (rowOf 74 (hcell true (wordsN M (M.length / 64)) (↑M.length + ↑n) (tailPut tl' (M.length % 64) n r.data.toList))) := (HG.out _ hB2).below hb3 (by simpa using hlt2)
          have hR3 : Blk w3 (w.heap.size + 1) 28 zeroRow := (hR2.set_other (a := ⟨w.heap.size, 9, none⟩) (by show w.heap.size + 1 ≠ w.heap.size; omega) _).below hb3 (by have := hR2.lt; simpa using this)
          have hb4 : Below w.heap.size w w3 := (hb2.setCell (p := ⟨w.heap.size, 9, none⟩) (Nat.le_refl _) _).trans (hb3.mono (by simp; omega))
          go_wp2_with ((with_reducible refine wpList_store_seg rfl 24 (.tmp 42) (.tmp 41) rfl rfl w.heap.size 1 74 8 (hcell true (wordsN M (M.length / 64)) (↑M.length + ↑n) (tailPut tl' (M.length % 64) n r.data.toList)) (fun j => .int .u32 (shaBlock (wordsN M (M.length / 64)) (tailPut tl' (M.length % 64) n r.data.toList) j)) 28 sizeH (by omega) (fun _ _ => rfl) ?_ ?_ ?_ ?_); exact rfl; exact rfl; exact hB3; rw [hcell_words, hashRow_full M r.data.toList tl' n htl (by rw [size_toList]; exact hn1) HF.out])
          go_roundw
          case rel => exact ⟨_, _, rfl, HM.out, ⟨_, (tail_full M r.data.toList tl' n htl (by rw [size_toList]; exact hn1) HF.out).2, hB3.row _⟩, hR3.row_other (by omega) _, setRow_below hb4 (Nat.le_refl _) _⟩
          case measure => exact strOf_lt r n hn3 hn1
        · have ht : (((M.length : Int) % 64 + n) == 64) = false := by simp; omega
          have HF := Lib.hid hfull
          clear hfull
          go_wp2_with (first
          | ((with_reducible refine wpList_slice_arr_lo rfl 26 (.tmp 19) (.tmp 20) rfl 64 5 under31 size5 w.heap.size 10 (M.length % 64) (Nat.mod_lt _ (by decide)) ?_ ?_ ?_); exact rfl; exact rfl)
          | ((with_reducible refine wpList_copy_str rfl (.tmp 21) (.tmp 22) 36 9 rfl 5 under26 size5 w.heap.size (10 + M.length % 64) 74 (64 - M.length % 64) (64 - M.length % 64) r (hcell true (wordsN M (M.length / 64)) M.length tl') 28 ?_ ?_ ?_ ?_ ?_); exact rfl; exact rfl; exact hB; exact hfit; rw [hcell_tail, ← HN.out]; have hB2 := Blk.row hB (rowOf 74 (hcell true (wordsN M (M.length / 64)) M.length (tailPut tl' (M.length % 64) n r.data.toList))); have hR2 := Blk.row_other hR (show w.heap.size + 1 ≠ w.heap.size by omega) (rowOf 74 (hcell true (wordsN M (M.length / 64)) M.length (tailPut tl' (M.length % 64) n r.data.toList))); have hb2 := setRow_below hb (Nat.le_refl _) (rowOf 74 (hcell true (wordsN M (M.length / 64)) M.length (tailPut tl' (M.length % 64) n r.data.toList))); generalize wr.setRow w.heap.size (rowOf 74 (hcell true (wordsN M (M.length / 64)) M.length (tailPut tl' (M.length % 64) n r.data.toList))) = w2 at hB2 hR2 hb2 ⊢; have c9' : w2.cell? ⟨w.heap.size, 9, none⟩ = some (.int .u64 M.length) := hB2.get (by omega); have f9' := hB2.free 9))
          go_roundw
          case rel =>
            have hB3 := HG.out _ hB2
            rw [hashRow_step M r.data.toList tl' n (by rw [size_toList]; exact hn1) (by have := HF.out; omega)] at hB3
            exact ⟨_, _, rfl, HM.out, ⟨_, tail_step M r.data.toList tl' n htl (by rw [size_toList]; exact hn1) (by have := HF.out; omega), hB3⟩, hR2.set_other (a := ⟨w.heap.size, 9, none⟩) (by show w.heap.size + 1 ≠ w.heap.size; omega) _, hb2.setCell (p := ⟨w.heap.size, 9, none⟩) (Nat.le_refl _) _⟩
          case measure => exact strOf_lt r n hn3 hn1
end Go.Proofs.YtlfhijdonejacaaDoor
