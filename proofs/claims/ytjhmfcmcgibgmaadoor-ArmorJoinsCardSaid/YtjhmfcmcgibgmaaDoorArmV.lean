/-
  armor.values by its contract: the table of an alphabet's places.
-/
import Derived.Test.YtjhmfcmcgibgmaaDoorKit3
import Derived.Test.YtjhmfcmcgibgmaaDoorArm1
import Derived.Test.YtjhmfcmcgibgmaaDoorProg
namespace Go.Proofs.YtjhmfcmcgibgmaaDoor
open Go.RowKit
theorem zeroI256 : (Tryd.prog.info? 38).bind (·.zero) = some (.agg (arrOf .i64 256 fun _ => 0)) := by kernel_rfl
theorem sizeI256 : (Tryd.prog.info? 38).map (·.size) = some 256 := by kernel_rfl
theorem underI256 : Tryd.prog.underlying 38 = some (.array 256 3) := Tryd.underlying38
def valF (l : List UInt8) (k : Nat) : Nat → Int := fun c => Arm.vals l c k
set_option maxRecDepth 100000 in
set_option maxHeartbeats 4000000 in
theorem values_any (s : ByteArray) (w : World) (hs : s.size ≤ 256) :
    Calls Tryd.prog 22 #[.string s] w fun e w' => e = .returned (.agg (arrOf .i64 256 (valF s.data.toList s.size))) ∧ Below w.heap.size w w' := by
  go_enter Tryd.func22, Tryd.ntmps22
  go_wp2_with (with_reducible refine wpList_alloc_sym rfl 38 rfl _ zeroI256 ?_)
  have hA := (Blk.new w 38 (arrOf .i64 256 fun _ => 0)).alloc (.cells (arrOf .i64 256 fun _ => 0) 38)
  have hB := Blk.new (w.alloc (.cells (arrOf .i64 256 fun _ => 0) 38)) 38 (arrOf .i64 256 fun _ => 0)
  have hb := (below_alloc (w := w) (.cells (arrOf .i64 256 fun _ => 0) 38)).alloc (by simp only [World.size_alloc]; omega) (.cells (arrOf .i64 256 fun _ => 0) 38)
  simp only [World.size_alloc] at hB
  generalize (w.alloc (.cells (arrOf .i64 256 fun _ => 0) 38)).alloc (.cells (arrOf .i64 256 fun _ => 0) 38) = w1 at hA hB hb ⊢
  have hs9 : s.size ≤ 9223372036854775807 := by omega
  go_loopw [6] (fun i wr => ∃ k : Nat, k ≤ 256 ∧ i = .int .i64 k ∧ Blk wr w.heap.size 38 (arrOf .i64 256 fun _ => 0) ∧ Blk wr (w.heap.size + 1) 38 (arrOf .i64 256 fun j => if j < k then -1 else 0) ∧ Below w.heap.size w wr) (fun i _ => 256 - (intOf i).toNat)
  case atStart => exact ⟨0, by omega, rfl, hA, by simpa using hB, hb⟩
  case round =>
    clear hA hB hb
    obtain ⟨k, hk, rfl, hA, hB, hb⟩ := hrel
    by_cases hlt : k < 256
    · have cn := hB.cell (j := k) hlt
      have fn := hB.free k
      go_wp2_with fail
      go_roundw
      case rel =>
        refine ⟨k + 1, by omega, by go_num, hA.set_other (a := ⟨w.heap.size + 1, k, none⟩) (by show w.heap.size ≠ w.heap.size + 1; omega) _, ?_, hb.setCell (p := ⟨w.heap.size + 1, k, none⟩) (by show w.heap.size ≤ w.heap.size + 1; omega) _⟩
        have h2 := hB.set k (-1)
        rw [arr_congr .i64 256 _ (fun j => if j < k + 1 then -1 else 0) (fun j hj => by
          unfold upd
          by_cases e : j = k
          · subst e; simp
          · simp only [e, if_false]
            by_cases e2 : j < k
            · rw [if_pos e2, if_pos (by omega)]
            · rw [if_neg e2, if_neg (by omega)])] at h2
        exact h2
      case measure => simp [intOf]; omega
    · have hk8 : k = 256 := by omega
      rw [hk8] at hB
      rw [arr_congr .i64 256 _ (valF s.data.toList 0) (fun j hj => by rw [if_pos hj]; rfl)] at hB
      clear hk8
      go_wp2_with fail
      go_loopw [14] (fun i wr => ∃ k : Nat, k ≤ s.size ∧ i = .int .i64 k ∧ Blk wr w.heap.size 38 (arrOf .i64 256 fun _ => 0) ∧ Blk wr (w.heap.size + 1) 38 (arrOf .i64 256 (valF s.data.toList k)) ∧ Below w.heap.size w wr) (fun i _ => s.size - (intOf i).toNat)
      case atStart => exact ⟨0, by omega, rfl, hA, hB, hb⟩
      case round =>
        clear hA hB hb
        obtain ⟨k, hk, rfl, hA, hB, hb⟩ := hrel
        by_cases hlt : k < s.size
        · have hbd := byteAt_bd s.data.toList k
          have cn := hB.cell (j := (byteAt s.data.toList k).toNat) (by omega)
          have fn := hB.free (byteAt s.data.toList k).toNat
          go_wp2_with ((with_reducible refine wpList_index_str rfl 9 _ _ rfl Tryd.underlying9 s .i64 k ?_ ?_ ?_ ?_ ?_); exact rfl; exact rfl; omega; omega; simp only [Int.toNat_natCast])
          go_roundw
          case rel =>
            refine ⟨k + 1, by omega, by go_num, hA.set_other (a := ⟨w.heap.size + 1, (byteAt s.data.toList k).toNat, none⟩) (by show w.heap.size ≠ w.heap.size + 1; omega) _, ?_, hb.setCell (p := ⟨w.heap.size + 1, (byteAt s.data.toList k).toNat, none⟩) (by show w.heap.size ≤ w.heap.size + 1; omega) _⟩
            have h2 := hB.set (byteAt s.data.toList k).toNat k
            rw [arr_congr .i64 256 _ (valF s.data.toList (k + 1)) (fun j hj => by
              have e : (byteAt s.data.toList k).toNat = (s.data.toList.getD k 0).toNat := by unfold byteAt; rw [Int.toNat_natCast]
              show upd _ _ _ _ = (if (s.data.toList.getD k 0).toNat = j then (k : Int) else Arm.vals s.data.toList j k)
              unfold upd
              rw [e]
              by_cases h : j = (s.data.toList.getD k 0).toNat
              · rw [if_pos h, if_pos h.symm]
              · rw [if_neg h, if_neg (fun e => h e.symm)]; rfl)] at h2
            exact h2
          case measure => simp [intOf]; omega
        · have hk8 : k = s.size := by omega
          rw [hk8] at hB
          clear hk8
          go_wp2_with (first
            | ((with_reducible refine wpList_load_arr rfl 38 (.tmp 3) rfl (w.heap.size + 1) .i64 256 (valF s.data.toList s.size) 38 3 underI256 sizeI256 ?_ hB ?_); exact rfl)
            | ((with_reducible refine wpList_store_arr rfl 38 (.tmp 2) (.tmp 23) rfl rfl w.heap.size .i64 256 (valF s.data.toList s.size) 38 _ sizeI256 ?_ ?_ hA (arr_size _ _ _) ?_); exact rfl; exact rfl))
          exact bodyPost_ret (results_arr rfl _ _ w.heap.size 38 .i64 256 (valF s.data.toList s.size) 3 underI256 sizeI256 rfl (hA.row _)) rfl ⟨rfl, setRow_below hb (Nat.le_refl _) _⟩
end Go.Proofs.YtjhmfcmcgibgmaaDoor
