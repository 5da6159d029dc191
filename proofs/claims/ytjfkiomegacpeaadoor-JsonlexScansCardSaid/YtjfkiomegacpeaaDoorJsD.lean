/-
  decimal's run, small, bytes by their contracts.
-/
import Derived.Test.YtjfkiomegacpeaaDoorJsG
import Derived.Test.YtjfkiomegacpeaaDoorKit2
import Derived.Test.YtjfkiomegacpeaaDoorKit7
import Derived.Deep.LoopGhost
namespace Go.Proofs.YtjfkiomegacpeaaDoor
open Go.RowKit
theorem dig_test (c : UInt8) : (Jsn.dig c = true ∧ 48 ≤ (c.toNat : Int) ∧ (c.toNat : Int) ≤ 57) ∨ (Jsn.dig c = false ∧ ¬ (48 ≤ (c.toNat : Int) ∧ (c.toNat : Int) ≤ 57)) := by
  have e1 : (48 : UInt8).toNat = 48 := rfl
  have e2 : (57 : UInt8).toNat = 57 := rfl
  by_cases h : 48 ≤ c.toNat ∧ c.toNat ≤ 57
  · left
    refine ⟨?_, by omega, by omega⟩
    simp only [Jsn.dig, Bool.and_eq_true, decide_eq_true_eq, UInt8.le_iff_toNat_le]
    omega
  · right
    refine ⟨?_, by omega⟩
    rw [← Bool.not_eq_true]
    simp only [Jsn.dig, Bool.and_eq_true, decide_eq_true_eq, UInt8.le_iff_toNat_le]
    omega
set_option maxRecDepth 100000 in
set_option maxHeartbeats 4000000 in
theorem drun_any (s : ByteArray) (w : World) (hs : s.size ≤ 140737488351232) :
    Calls Tryd.prog 67 #[.string s] w fun e w' => e = .returned (.int .i64 (Jsn.run Jsn.dig s.data.toList : Nat)) ∧ w = w' := by
  obtain ⟨n, hn⟩ : ∃ n, n = Jsn.run Jsn.dig s.data.toList := ⟨_, rfl⟩
  rw [← hn]
  have HN : Hid (n = 0 + Jsn.run Jsn.dig (s.data.toList.drop 0)) := Lib.hid (by rw [hn]; simp)
  clear hn
  go_enter Tryd.func67, Tryd.ntmps67
  go_wp2
  go_loop [3] (fun i => ∃ j : Nat, j ≤ s.size ∧ i = .int .i64 j ∧ Hid (n = j + Jsn.run Jsn.dig (s.data.toList.drop j))) (fun i => s.size - (intOf i).toNat)
  case atStart => exact ⟨0, by omega, rfl, HN⟩
  case round =>
    clear HN
    obtain ⟨j, hjs, rfl, HM⟩ := hrel
    by_cases hj : j < s.size
    · have e1 := drop_at s j hj
      have hM := HM.out
      rw [e1, Jsn.run_cons] at hM
      rcases dig_test s[j] with ⟨hd, c1, c2⟩ | ⟨hd, c1⟩
      · rw [hd, if_pos rfl] at hM
        have HM2 : Hid (n = (j + 1) + Jsn.run Jsn.dig (s.data.toList.drop (j + 1))) := Lib.hid (by omega)
        clear hM HM e1 hd
        go_wp2
        go_round
        case rel => exact ⟨j + 1, by omega, by go_num, HM2⟩
        case measure => simp [intOf]; omega
      · rw [hd, if_neg (by simp)] at hM
        have HM2 : Hid (n = j) := Lib.hid (by omega)
        clear hM HM e1 hd
        go_wp2
        all_goals first
          | (exfalso; omega)
          | (go_ret; refine ret_i64 ?_; have := HM2.out; omega)
    · have hM := HM.out
      rw [List.drop_of_length_le (by rw [size_toList]; omega), Jsn.run_nil] at hM
      have HM2 : Hid (n = j) := Lib.hid (by omega)
      clear hM HM
      go_wp2
      go_ret
      refine ret_i64 ?_
      have := HM2.out
      omega
set_option maxRecDepth 100000 in
set_option maxHeartbeats 4000000 in
theorem dsmall_any (s : ByteArray) (w : World) (hs : s.size ≤ 140737488351232) (hd : ∀ j (h : j < s.size), Jsn.dig s[j] = true) :
    Calls Tryd.prog 69 #[.string s] w fun e w' => (∃ v : Int, e = .returned (.int .i64 v) ∧ 0 ≤ v ∧ v ≤ 1099511627776) ∧ w = w' := by
  have HD := Lib.hid hd
  clear hd
  go_enter Tryd.func69, Tryd.ntmps69
  go_wp2
  go_loop [3, 7] (fun y i => ∃ (j : Nat) (v : Int), j ≤ s.size ∧ i = .int .i64 j ∧ y = .int .i64 v ∧ 0 ≤ v ∧ v ≤ 1099511627776) (fun _ i => s.size - (intOf i).toNat)
  case atStart => exact ⟨0, 0, by omega, rfl, rfl, by omega, by omega⟩
  case round =>
    obtain ⟨j, v, hjs, rfl, rfl, h0, h1⟩ := hrel
    by_cases hj : j < s.size
    · have hdj := HD.out j hj
      rcases dig_test s[j] with ⟨_, c1, c2⟩ | ⟨hn, _⟩
      · clear hdj
        go_wp2
        go_round
        case rel => exact ⟨j + 1, _, by omega, by go_num, rfl, by omega, by omega⟩
        case measure => simp [intOf]; omega
      · rw [hdj] at hn; simp at hn
    · go_wp2
      go_ret
      exact ⟨⟨v, rfl, h0, h1⟩, rfl⟩
theorem byteRowJ : ElemRow Tryd.prog 39 5 (.int .u8 0) 1 1 := ⟨Tryd.underlying39, by kernel_rfl, rfl, by decide⟩
set_option maxRecDepth 100000 in
set_option maxHeartbeats 4000000 in
theorem dbytes_any (s : ByteArray) (w : World) (hs : s.size ≤ 1099511627) :
    Calls Tryd.prog 68 #[.string s] w fun e w' => (∃ (g : Nat) (f : Nat → Int), e = .returned (.slice (some ⟨g, 0, none⟩) s.size s.size) ∧ w.heap.size ≤ g ∧ Blk w' g 5 (arrOf .u8 s.size f) ∧ ∀ j, 0 ≤ f j ∧ f j ≤ 255) ∧ Below w.heap.size w w' := by
  go_enter Tryd.func68, Tryd.ntmps68
  go_wp2_with ((with_reducible refine wpList_make_full_bytes rfl (.tmp 6) (.tmp 6) 39 rfl 5 byteRowJ .i64 .i64 _ _ s.size ?_ ?_ rfl rfl ?_ ?_); exact rfl; exact rfl; omega)
  intro w1 hB1 hb1
  go_wp2
  go_loopg [10] s.size (fun g i wr => ∃ (k : Nat) (f : Nat → Int), k + g = s.size ∧ i = .int .i64 k ∧ Blk wr w.heap.size 5 (arrOf .u8 s.size f) ∧ (∀ j, 0 ≤ f j ∧ f j ≤ 255) ∧ Below w.heap.size w wr)
  case atStart => exact ⟨0, fun _ => 0, by omega, rfl, hB1, fun j => ⟨Int.le_refl _, by show (0 : Int) ≤ 255; omega⟩, hb1⟩
  case round =>
    clear hB1 hb1
    obtain ⟨k, f, hg, rfl, hB, hf, hbr⟩ := hrel
    by_cases hk : k < s.size
    · have cn := hB.cell (j := k) hk
      have fn := hB.free k
      have hF := Lib.hid hf
      clear hf
      go_wp2
      go_roundg (s.size - (k + 1))
      case measure => omega
      case rel =>
        refine ⟨k + 1, upd f k (((s[k].toNat : Int) - 48) % 256), by omega, by go_num, hB.set k _, fun j => ?_, hbr.setCell (p := ⟨w.heap.size, k, none⟩) (Nat.le_refl _) _⟩
        unfold upd
        split
        · omega
        · exact hF.out j
    · go_wp2
      go_ret
      exact ⟨⟨_, f, rfl, Nat.le_refl _, hB, hf⟩, hbr⟩
end Go.Proofs.YtjfkiomegacpeaaDoor
