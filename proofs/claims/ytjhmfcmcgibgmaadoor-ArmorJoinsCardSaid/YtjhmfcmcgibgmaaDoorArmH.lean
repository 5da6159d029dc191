/-
  armor.Hex by its contract.
-/
import Derived.Test.YtjhmfcmcgibgmaaDoorKit7
import Derived.Test.YtjhmfcmcgibgmaaDoorArmV
import Derived.Laws.BitsLemmas
namespace Go.Proofs.YtjhmfcmcgibgmaaDoor
open Go.RowKit
theorem byteRow : ElemRow Tryd.prog 40 5 (.int .u8 0) 1 1 := ⟨by kernel_rfl, by kernel_rfl, rfl, by decide⟩
theorem intRow : ElemRow Tryd.prog 44 3 (.int .i64 0) 1 8 := ⟨by kernel_rfl, by kernel_rfl, rfl, by decide⟩
theorem dig_get : ∀ n (h : n < 16), (⟨#[48, 49, 50, 51, 52, 53, 54, 55, 56, 57, 97, 98, 99, 100, 101, 102]⟩ : ByteArray)[n]'h = Arm.hexC n := by decide +kernel
theorem dig_val (i n : Nat) (h : i < 16) (e : i = n) : Value.int .u8 (((⟨#[48, 49, 50, 51, 52, 53, 54, 55, 56, 57, 97, 98, 99, 100, 101, 102]⟩ : ByteArray)[i]'h).toNat : Int) = .int .u8 ((Arm.hexC n).toNat : Int) := by
  subst e
  rw [dig_get]
theorem cell_two0 (w : World) (v u : Value) (T : TypeId) : (w.alloc (.cells #[v, u] T)).cell? ⟨w.heap.size, 0, none⟩ = some v := (Blk.at_ (Blk.new w T #[v, u]) 0).trans rfl
theorem cell_two1 (w : World) (v u : Value) (T : TypeId) : (w.alloc (.cells #[v, u] T)).cell? ⟨w.heap.size, 1, none⟩ = some u := (Blk.at_ (Blk.new w T #[v, u]) 1).trans rfl
theorem hexL_take (s : ByteArray) (k : Nat) (h : k < s.size) : Arm.hexL (s.data.toList.take k) ++ [Arm.hexC (s[k].toNat / 16), Arm.hexC (s[k].toNat % 16)] = Arm.hexL (s.data.toList.take (k + 1)) := by
  rw [List.take_succ_eq_append_getElem (by rw [size_toList]; exact h), Arm.hexL_append]
  rfl
set_option maxRecDepth 100000 in
set_option maxHeartbeats 4000000 in
theorem hex_any (s : ByteArray) (w : World) (hs : s.size ≤ 1048576) :
    Calls Tryd.prog 15 #[.string s] w fun e w' => e = .returned (.string ⟨(Arm.hexL s.data.toList).toArray⟩) ∧ Below w.heap.size w w' := by
  go_enter Tryd.func15, Tryd.ntmps15
  go_wp2_with ((with_reducible refine wpList_make_bytes rfl _ _ 40 rfl 5 byteRow w.heap.size .i64 .i64 (2 * s.size) (2 * s.size) ?_ ?_ ?_ (by omega) (Nat.le_refl _) ?_); exact rfl; exact rfl; exact rfl)
  intro w1 hown _ hb
  go_wp2_with fail
  go_loopw [11, 3] (fun i v wr => ∃ k : Nat, k ≤ s.size ∧ i = .int .i64 k ∧ OwnB wr w.heap.size 5 v (Arm.hexL (s.data.toList.take k)) ∧ Below w.heap.size w wr) (fun i _ _ => s.size - (intOf i).toNat)
  case atStart => exact ⟨0, by omega, rfl, hown, hb⟩
  case round =>
    clear hown hb
    obtain ⟨k, hk, rfl, hown, hb⟩ := hrel
    by_cases hlt : k < s.size
    · have hbd := byteAt_bd s.data.toList k
      go_wp2_with fail
      have hx := s[k].toNat_lt
      have a0 : (0 : Int) ≤ (s[k].toNat : Int) / 16 := by omega
      have a1 : (s[k].toNat : Int) / 16 < 16 := by omega
      have a2 : (0 : Int) ≤ (s[k].toNat : Int) % 16 := by omega
      have a3 : (s[k].toNat : Int) % 16 < 16 := by omega
      have a4 : bits .and .u8 (s[k].toNat : Int) 15 = (s[k].toNat : Int) % 16 := u8_and15 _ (by omega) (by omega)
      go_region_law ((refine step_push_two rfl (.tmp 14) (.tmp 25) 40 rfl 5 byteRow w.heap.size u3 (Arm.hexL (s.data.toList.take k)) wr.heap.size 2 (Arm.hexC (s[k].toNat / 16)) (Arm.hexC (s[k].toNat % 16)) ?_ ?_ ?_ ?_ ?_ ?_ ?_ ?_); exact rfl; exact rfl; (first | exact OwnB.alloc (w := wr.drew) hown _ | exact OwnB.alloc hown _); exact (cell_two0 wr.drew _ _ _).trans (congrArg some (dig_val _ _ (by omega) (by omega))); exact (cell_two1 wr.drew _ _ _).trans (congrArg some (dig_val _ _ (by omega) (by omega))); (rw [Arm.hexL_length, List.length_take]; omega); (have := hb.size; show _ ≤ (wr.drew.alloc _).heap.size; simp only [World.size_alloc]; show _ ≤ wr.heap.size + 1; omega); intro v5 w5 hown5 hb5)
      all_goals
        have hb6 : Below w.heap.size w w5 := (hb.drew.alloc hb.size _).trans hb5
        rw [hexL_take] at hown5
        clear hb5
        go_wp2_with fail
        go_roundw
        case rel => exact ⟨k + 1, by omega, by go_num, hown5, hb6⟩
        case measure => simp [intOf]; omega
    · have hk8 : k = s.size := by omega
      rw [hk8, ← size_toList, List.take_length] at hown
      clear hk8
      go_wp2_with ((with_reducible refine wpList_own_string rfl 40 9 _ rfl 5 Tryd.underlying40 (by kernel_rfl) (by kernel_rfl) w.heap.size _ _ ?_ hown ?_); exact rfl)
      go_ret
      exact ⟨rfl, hb⟩
end Go.Proofs.YtjhmfcmcgibgmaaDoor
