/-
  TomllexQuotes: true at every source. Laid by wip/gen/quotes.py.
-/
import Derived.Test.YtdhbljbfjdlcdaaDoorOut
import Derived.Test.YtdhbljbfjdlcdaaDoorClean
namespace Go.Proofs.YtdhbljbfjdlcdaaDoor
open Go.RowKit
theorem out_quoted (q : UInt8) (k i : Nat) (hq : q = 34 ∧ i = 0 ∨ q = 39 ∧ i = 1) (hk : k = 0 ∨ k = 2) (l : List UInt8) (hf : ∀ c ∈ l, Tom.fair c = true) (hs : Snd l) :
    outOf (List.replicate (k + 1) q ++ l ++ List.replicate (k + 1) q) = ⟨[⟨4 + i + k, 0, l.length + 2 * (k + 1), l⟩, ⟨8, l.length + 2 * (k + 1), l.length + 2 * (k + 1), []⟩], [], 0, 0⟩ := by
  refine outOf_mk ?_ (Tom.quoted_scan q k i hq hk l hf)
  have hq2 : q.toNat < 128 := by rcases hq with ⟨rfl, _⟩ | ⟨rfl, _⟩ <;> decide
  have hr : ∀ k, Snd (List.replicate k q) := fun k => by
    induction k with
    | zero => exact snd_nil
    | succ k ih => rw [List.replicate_succ, snd_ascii q hq2]; exact ih
  have h2 : Snd (l ++ q :: List.replicate k q) := (snd_app l q _ hq2).2 ⟨hs, hr k⟩
  have h3 : ∀ j, Snd (List.replicate j q ++ (l ++ q :: List.replicate k q)) := fun j => by
    induction j with
    | zero => exact h2
    | succ j ih => rw [List.replicate_succ, List.cons_append, snd_ascii q hq2]; exact ih
  have := h3 (k + 1)
  rw [List.append_assoc]
  exact this
theorem quoted_call (s : ByteArray) (q : UInt8) (k i : Nat) (w : World) (h : Calls Tryd.prog 9 #[.string (⟨(List.replicate (k + 1) q).toArray⟩ ++ s ++ ⟨(List.replicate (k + 1) q).toArray⟩)] w (RetO w (outOf (⟨(List.replicate (k + 1) q).toArray⟩ ++ s ++ ⟨(List.replicate (k + 1) q).toArray⟩ : ByteArray).data.toList)))
    (ho : outOf (List.replicate (k + 1) q ++ s.data.toList ++ List.replicate (k + 1) q) = ⟨[⟨4 + i + k, 0, s.data.toList.length + 2 * (k + 1), s.data.toList⟩, ⟨8, s.data.toList.length + 2 * (k + 1), s.data.toList.length + 2 * (k + 1), []⟩], [], 0, 0⟩) :
    Calls Tryd.prog 9 #[.string (⟨(List.replicate (k + 1) q).toArray⟩ ++ s ++ ⟨(List.replicate (k + 1) q).toArray⟩)] w fun e w' => (∃ tv nv, e = .returned (.tuple #[tv, nv, .int .i64 0, .int .i64 0]) ∧ OwnTok w' w.heap.size tv [⟨4 + i + k, 0, s.size + 2 * (k + 1), s.data.toList⟩, ⟨8, s.size + 2 * (k + 1), s.size + 2 * (k + 1), []⟩]) ∧ Below w.heap.size w w' := by
  rw [app_lst, app_lst] at h
  rw [show (⟨(List.replicate (k + 1) q).toArray⟩ : ByteArray).data.toList = List.replicate (k + 1) q from rfl, ho, size_toList] at h
  exact h.mono fun e w' ⟨⟨tv, nv, he, ht, _⟩, hb⟩ => ⟨⟨tv, nv, he, ht⟩, hb⟩
set_option maxRecDepth 100000 in
set_option maxHeartbeats 4000000 in
theorem quotes_awake (s : ByteArray) (w : World) (hT : Lib.Utf8Tabs (Tryd.lays197_ren.g 3) (Tryd.lays197_ren.g 4) w) (b1 b2 b3 : Bool) (H1 : Hid (∀ w : World, Calls Tryd.prog 13 #[.string s, .string ⟨#[34]⟩] w fun e w' => e = .returned (.bool b1) ∧ w' = w))
    (H2 : Hid (∀ w : World, Calls Tryd.prog 13 #[.string s, .string ⟨#[39]⟩] w fun e w' => e = .returned (.bool b2) ∧ w' = w)) (H3 : Hid (∀ w : World, Calls Tryd.prog 13 #[.string s, .string ⟨#[92]⟩] w fun e w' => e = .returned (.bool b3) ∧ w' = w))
    (h : 200 < s.size ∨ b1 = true ∨ b2 = true ∨ b3 = true) :
    Calls Tryd.prog 6 #[.string s] w fun e w' => e = .returned (.bool true) ∧ Below w.heap.size w w' := by
  have HW := Lib.hid (awake_any w hT)
  clear hT
  by_cases hs : 200 < s.size
  · have h2 : 200 < (s.size : Int) := by omega
    clear hs h
    go_enter Tryd.func6, Tryd.ntmps6
    go_wp2_with fail
    refine HW.out.mono ?_
    rintro e w6 ⟨rfl, k6⟩
    go_wp2_with fail
    go_ret
    exact ⟨rfl, k6⟩
  · have h2 : ¬ 200 < (s.size : Int) := by omega
    cases b1 with
    | true =>
      clear hs h
      go_enter Tryd.func6, Tryd.ntmps6
      go_wp2_with fail
      refine (H1.out _).mono ?_
      rintro e w5 ⟨rfl, rfl⟩
      go_wp2_with fail
      refine HW.out.mono ?_
      rintro e w6 ⟨rfl, k6⟩
      go_wp2_with fail
      go_ret
      exact ⟨rfl, k6⟩
    | false =>
      cases b2 with
      | true =>
        clear hs h
        go_enter Tryd.func6, Tryd.ntmps6
        go_wp2_with fail
        refine (H1.out _).mono ?_
        rintro e w5 ⟨rfl, rfl⟩
        go_wp2_with fail
        refine (H2.out _).mono ?_
        rintro e w5 ⟨rfl, rfl⟩
        go_wp2_with fail
        refine HW.out.mono ?_
        rintro e w6 ⟨rfl, k6⟩
        go_wp2_with fail
        go_ret
        exact ⟨rfl, k6⟩
      | false =>
        obtain rfl : b3 = true := by simpa [hs] using h
        clear hs h
        go_enter Tryd.func6, Tryd.ntmps6
        go_wp2_with fail
        refine (H1.out _).mono ?_
        rintro e w5 ⟨rfl, rfl⟩
        go_wp2_with fail
        refine (H2.out _).mono ?_
        rintro e w5 ⟨rfl, rfl⟩
        go_wp2_with fail
        refine (H3.out _).mono ?_
        rintro e w5 ⟨rfl, rfl⟩
        go_wp2_with fail
        refine HW.out.mono ?_
        rintro e w6 ⟨rfl, k6⟩
        go_wp2_with fail
        go_ret
        exact ⟨rfl, k6⟩
set_option maxRecDepth 100000 in
set_option maxHeartbeats 4000000 in
theorem quotes_go (s : ByteArray) (hs : s.size ≤ 200) (w : World) (hT : Lib.Utf8Tabs (Tryd.lays197_ren.g 3) (Tryd.lays197_ren.g 4) w) (H1 : Hid (∀ w : World, Calls Tryd.prog 13 #[.string s, .string ⟨#[34]⟩] w fun e w' => e = .returned (.bool false) ∧ w' = w))
    (H2 : Hid (∀ w : World, Calls Tryd.prog 13 #[.string s, .string ⟨#[39]⟩] w fun e w' => e = .returned (.bool false) ∧ w' = w)) (H3 : Hid (∀ w : World, Calls Tryd.prog 13 #[.string s, .string ⟨#[92]⟩] w fun e w' => e = .returned (.bool false) ∧ w' = w))
    (hn1 : 34 ∉ s.data.toList) (hn2 : 39 ∉ s.data.toList) (hn3 : 92 ∉ s.data.toList) :
    Calls Tryd.prog 6 #[.string s] w fun e w' => e = .returned (.bool true) ∧ Below w.heap.size w w' := by
  have HW := Lib.hid (fun w1 (hb : Below w.heap.size w w1) => awake_any w1 (Utf8Tabs_below hT hb))
  have HO := Lib.hid (fun (hc : cleanL (s.size + 1) s.data.toList = true) (q : UInt8) (k i : Nat) (hq : q = 34 ∧ i = 0 ∨ q = 39 ∧ i = 1) (hk : k = 0 ∨ k = 2) => out_quoted q k i hq hk s.data.toList (fair_all _ (s.size + 1) (by rw [size_toList]; omega) hc hn1 hn2 hn3) (clean_snd (s.size + 1) _ (by rw [size_toList]; omega) hc))
  have HS := Lib.hid (fun (q : ByteArray) (hq : q.size ≤ 3) w1 (hb : Below w.heap.size w w1) => scan_out (q ++ s ++ q) w1 (by rw [ByteArray.size_append, ByteArray.size_append]; omega) (Utf8Tabs_below hT hb))
  obtain ⟨C, hC⟩ : ∃ C, C = cleanL (s.size + 1) s.data.toList := ⟨_, rfl⟩
  rw [← hC] at HO
  have HC0 : Hid (C = cleanL (s.size + 1) (s.data.toList.drop 0)) := Lib.hid hC
  have h2 : ¬ 200 < (s.size : Int) := by omega
  clear hC hT hn1 hn2 hn3
  go_enter Tryd.func6, Tryd.ntmps6
  go_wp2_with fail
  refine (H1.out _).mono ?_
  rintro e w5 ⟨rfl, rfl⟩
  go_wp2_with fail
  refine (H2.out _).mono ?_
  rintro e w5 ⟨rfl, rfl⟩
  go_wp2_with fail
  refine (H3.out _).mono ?_
  rintro e w5 ⟨rfl, rfl⟩
  clear H1 H2 H3
  go_wp2_with fail
  clear h2
  go_loopg [] s.size (fun g wr => ∃ (p f : Nat), p + g = s.size ∧ wr = w5.iter s p ∧ s.size - p < f ∧ Hid (C = cleanL f (s.data.toList.drop p)))
  case atStart => exact ⟨0, s.size + 1, by omega, rfl, by omega, HC0⟩
  case round =>
    clear HC0
    obtain ⟨p, f, hg, rfl, hf, HC⟩ := hrel
    by_cases hlt : p < s.size
    · have hnx := fun ty => next_any (P := Tryd.prog) w5 s p ty hlt
      have hK2 := width_le s p hlt
      have hK1 := Lib.width_pos s p
      obtain ⟨f, rfl⟩ : ∃ f', f = f' + 1 := ⟨f - 1, by omega⟩
      have hcr := clean_round f p s.data.toList (by rw [size_toList]; exact hlt)
      rw [Lib.decodeL_drop] at hcr
      generalize Utf8.decode s p = RK at *
      obtain ⟨R, K⟩ := RK
      have HC2 := Lib.hid (HC.out.trans (hcr R K rfl))
      simp only at hK1 hK2 hnx
      clear HC hcr
      by_cases hbad : R < 32 ∨ R = 127 ∨ R = 65533
      · clear HC2
        rcases Nat.lt_or_ge R 32 with h1 | h1
        · have r1 : (R : Int) < 32 := by omega
          clear hbad
          go_wp2_with fail
          refine (HW.out _ (below_alloc _)).mono ?_
          rintro e w6 ⟨rfl, k6⟩
          go_wp2_with fail
          go_ret
          exact ⟨rfl, (below_alloc _).trans (k6.mono (below_alloc _).size)⟩
        · have r1 : ¬ ((R : Int) < 32) := by omega
          by_cases h3 : R = 127
          · have r2 : ((R : Int) == 127) = true := by rw [beq_iff_eq]; omega
            clear hbad
            go_wp2_with fail
            refine (HW.out _ (below_alloc _)).mono ?_
            rintro e w6 ⟨rfl, k6⟩
            go_wp2_with fail
            go_ret
            exact ⟨rfl, (below_alloc _).trans (k6.mono (below_alloc _).size)⟩
          · have r2 : ((R : Int) == 127) = false := by rw [beq_eq_false_iff_ne]; omega
            have r3 : ((R : Int) == 65533) = true := by rw [beq_iff_eq]; omega
            clear hbad
            go_wp2_with fail
            refine (HW.out _ (below_alloc _)).mono ?_
            rintro e w6 ⟨rfl, k6⟩
            go_wp2_with fail
            go_ret
            exact ⟨rfl, (below_alloc _).trans (k6.mono (below_alloc _).size)⟩
      · have HC3 := Lib.hid (HC2.out.trans (if_neg hbad))
        have r1 : ¬ ((R : Int) < 32) := by omega
        have r2 : ((R : Int) == 127) = false := by rw [beq_eq_false_iff_ne]; omega
        have r3 : ((R : Int) == 65533) = false := by rw [beq_eq_false_iff_ne]; omega
        clear HC2 hbad
        go_wp2_with fail
        go_roundg (s.size - (p + K))
        case measure => omega
        case rel => exact ⟨p + K, f, by omega, rfl, by omega, HC3⟩
    · have hCt : C = true := HC.out.trans (by rw [List.drop_of_length_le (by rw [size_toList]; omega)]; match f with | 0 => rfl | _ + 1 => rfl)
      have HQ := Lib.hid (fun (q : UInt8) (k i : Nat) (hq : q = 34 ∧ i = 0 ∨ q = 39 ∧ i = 1) (hk : k = 0 ∨ k = 2) w1 (hb : Below w5.heap.size w5 w1) => quoted_call s q k i w1 (HS.out ⟨(List.replicate (k + 1) q).toArray⟩ (by rw [← size_toList]; simp; omega) w1 hb) (HO.out hCt q k i hq hk))
      have hnx := fun ty => run_next_end (P := Tryd.prog) w5 s p ty hlt
      clear HS HO HC hCt hf hg
      obtain ⟨w6, hw6⟩ : ∃ w6, w6 = w5.iter s p := ⟨_, rfl⟩
      have hb6 : Below w5.heap.size w5 w6 := by rw [hw6]; exact below_alloc _
      rw [← hw6] at hnx ⊢
      clear hw6 hlt
      go_wp2_with fail
      have hB7 : Blk (w6.alloc (.cells #[.string ⟨#[34]⟩, .string ⟨#[39]⟩, .string ⟨#[34, 34, 34]⟩, .string ⟨#[39, 39, 39]⟩] 9)) w6.heap.size 9 #[.string ⟨#[34]⟩, .string ⟨#[39]⟩, .string ⟨#[34, 34, 34]⟩, .string ⟨#[39, 39, 39]⟩] := Blk.new _ _ _
      have hb7 : Below w5.heap.size w5 (w6.alloc (.cells #[.string ⟨#[34]⟩, .string ⟨#[39]⟩, .string ⟨#[34, 34, 34]⟩, .string ⟨#[39, 39, 39]⟩] 9)) := hb6.alloc hb6.size _
      generalize w6.alloc (.cells #[.string ⟨#[34]⟩, .string ⟨#[39]⟩, .string ⟨#[34, 34, 34]⟩, .string ⟨#[39, 39, 39]⟩] 9) = w7 at *
      generalize w6.heap.size = g7 at *
      clear hb6 hnx
      go_loopg [45] 4 (fun g i wr => ∃ k : Nat, k + g = 4 ∧ i = .int .i64 k ∧ Below w7.heap.size w7 wr)
      case atStart => exact ⟨0, by omega, rfl, Below.refl _ _⟩
      case round =>
        obtain ⟨k, hg, rfl, hbr⟩ := hrel
        have hB8 := hB7.below hbr hB7.lt
        have hb8 := hb7.trans (hbr.mono hb7.size)
        by_cases hk : k < 4
        · have hk4 : k = 0 ∨ k = 1 ∨ k = 2 ∨ k = 3 := by omega
          rcases hk4 with rfl | rfl | rfl | rfl
          · have hq0 := hB8.at_ 0
            have hC := HQ.out 34 0 0 (Or.inl ⟨rfl, rfl⟩) (Or.inl rfl) wr hb8
            have hC : Calls Tryd.prog 9 #[.string (⟨#[34]⟩ ++ s ++ ⟨#[34]⟩)] wr _ := hC
            have hq1 : wr.cell? ⟨g7, 0, none⟩ = some (.string ⟨#[34]⟩) := hq0
            have HC := Lib.hid hC
            clear hC hq0 HQ hB7
            go_wp2_with fail
            refine HC.out.mono ?_
            rintro e w9 ⟨⟨tv, nv, rfl, hot⟩, hb9⟩
            obtain ⟨ao, ac, rfl, hac, RA⟩ := row_at hot
            obtain ⟨ga, rfl, ga0, a0, a1, a2, a3⟩ := RA.tok 0 _ (by simp) rfl
            have a2 : w9.cell? ⟨ga, 2, none⟩ = some (.int .i64 ((s.size : Int) + 2)) := a2
            have a0 : w9.cell? ⟨ga, 0, none⟩ = some (.int .i64 4) := a0
            have a1 : w9.cell? ⟨ga, 1, none⟩ = some (.int .i64 0) := a1
            have a3 : w9.cell? ⟨ga, 3, none⟩ = some (.string s) := a3
            clear hot RA HC hB8
            go_wp2_with fail
            go_roundg (3 - 0)
            case measure => omega
            case rel => exact ⟨0 + 1, by omega, rfl, hbr.trans (hb9.mono hbr.size)⟩
          · have hq0 := hB8.at_ 1
            have hC := HQ.out 39 0 1 (Or.inr ⟨rfl, rfl⟩) (Or.inl rfl) wr hb8
            have hC : Calls Tryd.prog 9 #[.string (⟨#[39]⟩ ++ s ++ ⟨#[39]⟩)] wr _ := hC
            have hq1 : wr.cell? ⟨g7, 1, none⟩ = some (.string ⟨#[39]⟩) := hq0
            have HC := Lib.hid hC
            clear hC hq0 HQ hB7
            go_wp2_with fail
            refine HC.out.mono ?_
            rintro e w9 ⟨⟨tv, nv, rfl, hot⟩, hb9⟩
            obtain ⟨ao, ac, rfl, hac, RA⟩ := row_at hot
            obtain ⟨ga, rfl, ga0, a0, a1, a2, a3⟩ := RA.tok 0 _ (by simp) rfl
            have a2 : w9.cell? ⟨ga, 2, none⟩ = some (.int .i64 ((s.size : Int) + 2)) := a2
            have a0 : w9.cell? ⟨ga, 0, none⟩ = some (.int .i64 5) := a0
            have a1 : w9.cell? ⟨ga, 1, none⟩ = some (.int .i64 0) := a1
            have a3 : w9.cell? ⟨ga, 3, none⟩ = some (.string s) := a3
            clear hot RA HC hB8
            go_wp2_with fail
            go_roundg (3 - 1)
            case measure => omega
            case rel => exact ⟨1 + 1, by omega, rfl, hbr.trans (hb9.mono hbr.size)⟩
          · have hq0 := hB8.at_ 2
            have hC := HQ.out 34 2 0 (Or.inl ⟨rfl, rfl⟩) (Or.inr rfl) wr hb8
            have hC : Calls Tryd.prog 9 #[.string (⟨#[34, 34, 34]⟩ ++ s ++ ⟨#[34, 34, 34]⟩)] wr _ := hC
            have hq1 : wr.cell? ⟨g7, 2, none⟩ = some (.string ⟨#[34, 34, 34]⟩) := hq0
            have HC := Lib.hid hC
            clear hC hq0 HQ hB7
            go_wp2_with fail
            refine HC.out.mono ?_
            rintro e w9 ⟨⟨tv, nv, rfl, hot⟩, hb9⟩
            obtain ⟨ao, ac, rfl, hac, RA⟩ := row_at hot
            obtain ⟨ga, rfl, ga0, a0, a1, a2, a3⟩ := RA.tok 0 _ (by simp) rfl
            have a2 : w9.cell? ⟨ga, 2, none⟩ = some (.int .i64 ((s.size : Int) + 6)) := a2
            have a0 : w9.cell? ⟨ga, 0, none⟩ = some (.int .i64 6) := a0
            have a1 : w9.cell? ⟨ga, 1, none⟩ = some (.int .i64 0) := a1
            have a3 : w9.cell? ⟨ga, 3, none⟩ = some (.string s) := a3
            clear hot RA HC hB8
            go_wp2_with fail
            go_roundg (3 - 2)
            case measure => omega
            case rel => exact ⟨2 + 1, by omega, rfl, hbr.trans (hb9.mono hbr.size)⟩
          · have hq0 := hB8.at_ 3
            have hC := HQ.out 39 2 1 (Or.inr ⟨rfl, rfl⟩) (Or.inr rfl) wr hb8
            have hC : Calls Tryd.prog 9 #[.string (⟨#[39, 39, 39]⟩ ++ s ++ ⟨#[39, 39, 39]⟩)] wr _ := hC
            have hq1 : wr.cell? ⟨g7, 3, none⟩ = some (.string ⟨#[39, 39, 39]⟩) := hq0
            have HC := Lib.hid hC
            clear hC hq0 HQ hB7
            go_wp2_with fail
            refine HC.out.mono ?_
            rintro e w9 ⟨⟨tv, nv, rfl, hot⟩, hb9⟩
            obtain ⟨ao, ac, rfl, hac, RA⟩ := row_at hot
            obtain ⟨ga, rfl, ga0, a0, a1, a2, a3⟩ := RA.tok 0 _ (by simp) rfl
            have a2 : w9.cell? ⟨ga, 2, none⟩ = some (.int .i64 ((s.size : Int) + 6)) := a2
            have a0 : w9.cell? ⟨ga, 0, none⟩ = some (.int .i64 7) := a0
            have a1 : w9.cell? ⟨ga, 1, none⟩ = some (.int .i64 0) := a1
            have a3 : w9.cell? ⟨ga, 3, none⟩ = some (.string s) := a3
            clear hot RA HC hB8
            go_wp2_with fail
            go_roundg (3 - 3)
            case measure => omega
            case rel => exact ⟨3 + 1, by omega, rfl, hbr.trans (hb9.mono hbr.size)⟩
        · obtain rfl : k = 4 := by omega
          clear HQ hB7 hB8
          go_wp2_with fail
          refine (HW.out wr hb8).mono ?_
          rintro e w9 ⟨rfl, k9⟩
          go_wp2_with fail
          go_ret
          exact ⟨rfl, hb8.trans (k9.mono hb8.size)⟩
theorem tomllexQuotes_any (s : ByteArray) (w : World) (hT : Lib.Utf8Tabs (Tryd.lays197_ren.g 3) (Tryd.lays197_ren.g 4) w) :
    Calls Tryd.prog 6 #[.string s] w fun e w' => e = .returned (.bool true) ∧ Below w.heap.size w w' := by
  have H1 := Lib.hid (fun w => Tryd.strings_Contains_one s 34 w)
  have H2 := Lib.hid (fun w => Tryd.strings_Contains_one s 39 w)
  have H3 := Lib.hid (fun w => Tryd.strings_Contains_one s 92 w)
  have n1 := not_in s.data.toList 34
  have n2 := not_in s.data.toList 39
  have n3 := not_in s.data.toList 92
  generalize decide (0 ≤ Lib.indexByte s.data.toList 34) = b1 at *
  generalize decide (0 ≤ Lib.indexByte s.data.toList 39) = b2 at *
  generalize decide (0 ≤ Lib.indexByte s.data.toList 92) = b3 at *
  by_cases h : 200 < s.size ∨ b1 = true ∨ b2 = true ∨ b3 = true
  · exact quotes_awake s w hT b1 b2 b3 H1 H2 H3 h
  · have hs : s.size ≤ 200 := by omega
    obtain rfl : b1 = false := by cases b1; rfl; exact absurd (Or.inr (Or.inl rfl)) h
    obtain rfl : b2 = false := by cases b2; rfl; exact absurd (Or.inr (Or.inr (Or.inl rfl))) h
    obtain rfl : b3 = false := by cases b3; rfl; exact absurd (Or.inr (Or.inr (Or.inr rfl))) h
    exact quotes_go s hs w hT H1 H2 H3 (n1 rfl) (n2 rfl) (n3 rfl)
end Go.Proofs.YtdhbljbfjdlcdaaDoor
