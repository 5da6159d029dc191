/-
  ref01.Decode by its contract: the place of its error.
-/
import Derived.Test.YtjfkiomegacpeaaDoorAt
namespace Go.Proofs.YtjfkiomegacpeaaDoor
open Go.RowKit
theorem i32Row : ElemRow Tryd.prog 38 21 (.int .i32 0) 1 4 := ⟨Tryd.underlying38, by kernel_rfl, rfl, by decide⟩
def RetD (w : World) (o : Option Nat) (e : Go.Ending) (w' : World) : Prop := (∃ v : Value, e = .returned (.tuple #[v, .int .i64 (chkV o).1])) ∧ Below w.heap.size w w'
set_option maxRecDepth 100000 in
set_option maxHeartbeats 4000000 in
theorem decode_any (s : ByteArray) (w : World) (hs : s.size ≤ 1099511627) :
    Calls Tryd.prog 22 #[.string s] w (RetD w (chk (s.size + 1) 0 s.data.toList)) := by
  obtain ⟨C, hC⟩ : ∃ C, C = chk (s.size + 1) 0 s.data.toList := ⟨_, rfl⟩
  rw [← hC]
  have HC0 : Hid (C = chk (s.size + 1) 0 (s.data.toList.drop 0)) := Lib.hid hC
  clear hC
  go_enter Tryd.func22, Tryd.ntmps22
  go_wp2
  go_loopg [4, 5] s.size (fun g v i wr => ∃ (p f n : Nat) (xs : List Value) (ov : Value), p + g = s.size ∧ v = ov ∧ i = .int .i64 p ∧ s.size - p < f ∧ n ≤ p ∧ Hid (C = chk f p (s.data.toList.drop p)) ∧ wr.ownsRow w.heap.size 21 1 ov n xs ∧ Below w.heap.size w wr)
  case atStart =>
    exact ⟨0, s.size + 1, 0, [], _, by omega, rfl, rfl, by omega, by omega, HC0, World.ownsRow_nil _ _ _ _, Below.refl _ _⟩
  case round =>
    clear HC0
    obtain ⟨p, f, n, xs, v, hg, rfl, rfl, hf, hn, HC, hown, hbel⟩ := hrel
    by_cases hlt : p < s.size
    · obtain ⟨f, rfl⟩ : ∃ f', f = f' + 1 := ⟨f - 1, by omega⟩
      have hK2 := width_le s p hlt
      have hK1 := Lib.width_pos s p
      have HA := at_any s p wr hlt (by omega)
      have hcr := chk_round f p s.data.toList (by rw [size_toList]; exact hlt)
      rw [Lib.decodeL_drop] at hcr HA
      generalize Utf8.decode s p = RK at *
      obtain ⟨R, K⟩ := RK
      have HS := Lib.hid (HC.out.trans (hcr R K rfl))
      have HA := Lib.hid HA
      simp only at hK1 hK2
      clear HC hcr
      by_cases h1 : R = 65533 ∧ K = 1
      · have HS2 : Hid (C = some p) := Lib.hid (HS.out.trans (if_pos h1))
        have HA : Hid (Calls Tryd.prog 35 #[.string s, .int .i64 p] wr fun e w' => (∃ v : Int, e = .returned (.tuple #[.int .i64 v, .int .i64 0])) ∧ Below wr.heap.size wr w') := Lib.hid (HA.out.mono (fun e w' h => by
          unfold RetA at h
          rw [if_pos h1] at h
          exact h))
        clear HS h1
        go_wp2_with (go_at_call 35; refine HA.out.mono ?_; rintro e w3 ⟨⟨x, rfl⟩, hb3⟩)
        go_ret2
        rw [HS2.out]
        exact ⟨⟨_, rfl⟩, hbel.trans (hb3.mono hbel.size)⟩
      · have HS2 : Hid (C = chk f (p + K) (s.data.toList.drop (p + K))) := Lib.hid (HS.out.trans (if_neg h1))
        have HA : Hid (Calls Tryd.prog 35 #[.string s, .int .i64 p] wr fun e w' => (∃ v : Int, e = .returned (.tuple #[.int .i64 v, .int .i64 K])) ∧ Below wr.heap.size wr w') := Lib.hid (HA.out.mono (fun e w' h => by
          unfold RetA at h
          rw [if_neg h1] at h
          exact h))
        clear HS h1
        have hK0 : ((K : Int) == 0) = false := by rw [beq_eq_false_iff_ne]; omega
        have hbs := hbel.size
        go_wp2_with (first
          | (go_at_call 35; refine HA.out.mono ?_; rintro e w3 ⟨⟨x, rfl⟩, hb3⟩)
          | ((with_reducible refine wpList_append_one rfl (.tmp 22) (.tmp 25) 38 rfl 21 _ 1 4 i32Row w.heap.size _ n xs w3.heap.size 1 [.int .i32 (wrap32 x)] ?_ ?_ (OwnR.keep2 hown hb3 _) ?_ ?_ ?_ ?_ ?_ ?_ ?_); exact rfl; exact rfl; exact rfl; exact one_new _ _ _; exact one_ok _ _; omega; omega; exact Nat.le_trans hbs (Nat.le_trans hb3.size (by simp only [World.size_alloc]; omega))))
        intro v' w4 hown4 _ hb4
        go_wp2
        go_roundg (s.size - (p + K))
        case measure => omega
        case rel => exact ⟨p + K, f, n + 1, _, v', by omega, rfl, by go_num, by omega, by omega, HS2, hown4, ((hbel.trans (hb3.mono hbs)).alloc (Nat.le_trans hbs hb3.size) _).trans hb4⟩
    · have HC9 : Hid (C = none) := Lib.hid (HC.out.trans (by rw [List.drop_of_length_le (by rw [size_toList]; omega)]; match f with | 0 => rfl | _ + 1 => rfl))
      clear HC
      go_wp2
      go_ret2
      rw [HC9.out]
      exact ⟨⟨_, rfl⟩, hbel⟩
end Go.Proofs.YtjfkiomegacpeaaDoor
