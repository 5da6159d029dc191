/-
  jsonlex.token by its contract.
-/
import Derived.Test.YtjfkiomegacpeaaDoorJsS
namespace Go.Proofs.YtjfkiomegacpeaaDoor
open Go.RowKit
theorem idx_punct (c : UInt8) : decide (0 ≤ Lib.indexByte [123, 125, 91, 93, 58, 44] c) = Jsn.punct c := bytes_all (P := fun c => decide (0 ≤ Lib.indexByte [123, 125, 91, 93, 58, 44] c) = Jsn.punct c) (by decide +kernel) c
theorem idx_white (c : UInt8) : decide (0 ≤ Lib.indexByte [32, 9, 13, 10] c) = Jsn.white c := bytes_all (P := fun c => decide (0 ≤ Lib.indexByte [32, 9, 13, 10] c) = Jsn.white c) (by decide +kernel) c
theorem toNat_u8 (c : UInt8) : ((c.toNat : Int).toNat.toUInt8) = c := by simp
theorem idx_call (t : ByteArray) (c : UInt8) (w : World) : Calls Tryd.prog 19 #[.string t, .int .u8 (c.toNat : Int)] w fun e w' => e = .returned (.int .i64 (Lib.indexByte t.data.toList c)) ∧ w' = w := by
  have h := Tryd.strings_IndexByte t (c.toNat : Int) w
  rw [toNat_u8] at h
  exact h
theorem RetTk.row {w0 w w' : World} {o : Jsn.Tok} {e : Go.Ending} (h : RetTk w0 o e w') : ∃ (k n : Int) (s : ByteArray) (c : Int), e = .returned (.tuple #[.agg (tokV k n s), .int .i64 c]) ∧ Below w0.heap.size w0 w' ∧ ∀ w2, Below w.heap.size w w2 → RetTk w o (.returned (.tuple #[.agg (tokV k n s), .int .i64 c])) w2 := by
  cases o with
  | ok k n t =>
    obtain ⟨rfl, hb⟩ := h
    exact ⟨_, _, _, _, rfl, hb, fun w2 h2 => ⟨rfl, h2⟩⟩
  | bad c n =>
    obtain ⟨⟨k, s, rfl⟩, h0, hb⟩ := h
    exact ⟨_, _, _, _, rfl, hb, fun w2 h2 => ⟨⟨k, s, rfl⟩, h0, h2⟩⟩
theorem quo_bad0 : ∀ (f a : Nat) (out l : List UInt8) (c n : Nat), Jsn.quo f a out l = .bad c n → c ≠ 0 := by
  intro f
  induction f with
  | zero => intro a out l c n h; simp [Jsn.quo] at h; omega
  | succ f ih =>
    intro a out l c n h
    cases l with
    | nil => simp [Jsn.quo] at h; omega
    | cons b r =>
      unfold Jsn.quo at h
      split at h
      · simp at h
      · split at h
        · simp at h; omega
        · split at h
          · split at h
            · exact ih _ _ _ _ _ h
            · rename_i e he
              simp at h
              unfold Jsn.escape at he
              repeat' split at he
              all_goals first
                | (simp at he; omega)
                | simp at he
          · exact ih _ _ _ _ _ h
theorem RetTk.ofQ {w w0 w3 : World} {q : Jsn.Q} {e : Go.Ending} (hn : ∀ c n, q = .bad c n → c ≠ 0) (h : RetU w0 q e w3) : ∃ (t : ByteArray) (m : Nat) (c : Int), e = .returned (.tuple #[.string t, .int .i64 m, .int .i64 c]) ∧ Below w0.heap.size w0 w3 ∧ ∀ w', Below w.heap.size w w' → RetTk w (Jsn.qtok q) (.returned (.tuple #[.agg (tokV 2 m t), .int .i64 c])) w' := by
  cases q with
  | ok t n =>
    obtain ⟨rfl, hb⟩ := h
    exact ⟨_, n, 0, rfl, hb, fun w' h2 => ⟨rfl, h2⟩⟩
  | bad c n =>
    obtain ⟨rfl, hb⟩ := h
    exact ⟨_, n, c, rfl, hb, fun w' h2 => ⟨⟨_, _, rfl⟩, hn c n rfl, h2⟩⟩
set_option maxRecDepth 100000 in
set_option maxHeartbeats 4000000 in
theorem token_any (s : ByteArray) (w : World) (h1 : 1 ≤ s.size) (hs : s.size ≤ 65536) (hE : EnvJ w) (hS : Snd s.data.toList) :
    Calls Tryd.prog 21 #[.string s] w (RetTk w (Jsn.token s.data.toList)) := by
  obtain ⟨C, hC⟩ : ∃ C, C = Jsn.token s.data.toList := ⟨_, rfl⟩
  rw [← hC]
  have hhd : s.data.toList.headD 0 = s[0] := by
    have := head_at s 0 (by omega)
    rwa [List.drop_zero] at this
  have hC2 : C = if Jsn.punct s[0] then .ok 1 1 (s.data.toList.take 1) else if s[0] == 34 then Jsn.qtok (Jsn.quo s.size 1 [] (s.data.toList.drop 1)) else if Jsn.seqc s[0] then Jsn.sequence s.data.toList else .bad 4 0 := by
    rw [hC]; unfold Jsn.token; rw [hhd, size_toList]
  have HI := fun w => idx_call ⟨#[123, 125, 91, 93, 58, 44]⟩ s[0] w
  rw [show (⟨#[123, 125, 91, 93, 58, 44]⟩ : ByteArray).data.toList = [123, 125, 91, 93, 58, 44] from rfl] at HI
  have hip := idx_punct s[0]
  obtain ⟨ix, hix⟩ : ∃ i, i = Lib.indexByte [123, 125, 91, 93, 58, 44] s[0] := ⟨_, rfl⟩
  rw [← hix] at HI hip
  have HI := Lib.hid HI
  clear hix hhd hC
  have hB0 : Blk (w.alloc (.cells #[.int .i64 0, .int .i64 0, .int .i64 0, .string ⟨#[]⟩] 34)) w.heap.size 34 #[.int .i64 0, .int .i64 0, .int .i64 0, .string ⟨#[]⟩] := Blk.new _ _ _
  have hb0 := below_alloc (w := w) (.cells #[.int .i64 0, .int .i64 0, .int .i64 0, .string ⟨#[]⟩] 34)
  have HE := Lib.hid (hE.below hb0)
  clear hE
  cases hpu : Jsn.punct s[0] with
  | true =>
    rw [hpu] at hip hC2
    have hi0 : 0 ≤ ix := of_decide_eq_true hip
    have HC3 : Hid (C = .ok 1 1 (s.data.toList.take 1)) := Lib.hid (hC2.trans (if_pos rfl))
    clear hC2 hpu hip HE hS
    go_enter Tryd.func21, Tryd.ntmps21
    go_wp2_with fail
    generalize w.alloc (.cells #[.int .i64 0, .int .i64 0, .int .i64 0, .string ⟨#[]⟩] 34) = w1 at *
    refine (HI.out _).mono ?_
    rintro e w2 ⟨rfl, rfl⟩
    clear HI
    go_wp2_with ((with_reducible refine wpList_store_tok rfl (.tmp 2) (.tmp 16) rfl rfl w.heap.size (.int .i64 0) (.int .i64 0) (.int .i64 0) (.string ⟨#[]⟩) 1 0 1 (s.extract 0 1) ?_ ?_ hB0 ?_); exact rfl; exact rfl)
    refine bodyPost_ret (v := .tuple #[.agg (tokV 1 1 (s.extract 0 1)), .int .i64 0]) (by exact results_cell_tmp rfl _ _ w.heap.size 34 #[.int .i64 1, .int .i64 0, .int .i64 1, .string (s.extract 0 1)] _ (.int .i64 0) rfl rfl (hB0.row _) Tryd.underlying34 rfl tokRow) rfl ?_
    exact RetTk.mk_ok HC3.out rfl rfl (ext0 s 1) (setRow_below hb0 (Nat.le_refl _) _)
  | false =>
    rw [hpu] at hip hC2
    have hi0 : ¬ (0 ≤ ix) := of_decide_eq_false hip
    replace hC2 := hC2.trans (if_neg (by simp))
    clear hpu hip
    by_cases h34 : s[0] = 34
    · have n34 : ((s[0].toNat : Int) == 34) = true := by rw [h34]; rfl
      have HC3 : Hid (C = Jsn.qtok (Jsn.quo s.size 1 [] (s.data.toList.drop 1))) := Lib.hid (hC2.trans (if_pos (by rw [h34]; rfl)))
      have HQ := Lib.hid (fun w => quoted_any s w h1 (by omega) h34 hS)
      clear hC2 h34 hS
      go_enter Tryd.func21, Tryd.ntmps21
      go_wp2_with fail
      generalize w.alloc (.cells #[.int .i64 0, .int .i64 0, .int .i64 0, .string ⟨#[]⟩] 34) = w1 at *
      refine (HI.out _).mono ?_
      rintro e w2 ⟨rfl, rfl⟩
      clear HI
      go_wp2_with fail
      refine (HQ.out _).mono ?_
      intro e w3 hq
      clear HQ
      have hq2 := RetTk.ofQ (w := w) (fun c n h => quo_bad0 _ _ _ _ _ _ h) hq
      rw [← HC3.out] at hq2
      obtain ⟨t, m, c, rfl, hb3, HR⟩ := hq2
      have hB3 := hB0.below hb3 hB0.lt
      have hb4 := hb0.trans (hb3.mono hb0.size)
      clear hq hB0 hb3 hb0
      have HR := Lib.hid HR
      go_wp2_with ((with_reducible refine wpList_store_tok rfl (.tmp 2) (.tmp 28) rfl rfl w.heap.size (.int .i64 0) (.int .i64 0) (.int .i64 0) (.string ⟨#[]⟩) 2 0 m t ?_ ?_ hB3 ?_); exact rfl; exact rfl)
      refine bodyPost_ret (v := .tuple #[.agg (tokV 2 m t), .int .i64 c]) (by exact results_cell_tmp rfl _ _ w.heap.size 34 #[.int .i64 2, .int .i64 0, .int .i64 m, .string t] _ (.int .i64 c) rfl rfl (hB3.row _) Tryd.underlying34 rfl tokRow) rfl ?_
      exact HR.out _ (setRow_below hb4 (Nat.le_refl _) _)
    · have n34 : ((s[0].toNat : Int) == 34) = false := byte_ne 34 h34
      replace hC2 := hC2.trans (if_neg (by rw [beq_eq_false_iff_ne.2 h34]; simp))
      obtain ⟨sq, hsq⟩ : ∃ b, b = Jsn.seqc s[0] := ⟨_, rfl⟩
      rw [← hsq] at hC2
      have HC3 := Lib.hid hC2
      have HSQ := Lib.hid hsq
      clear hC2 hsq
      clear h34 hS
      go_enter Tryd.func21, Tryd.ntmps21
      go_wp2_with fail
      generalize w.alloc (.cells #[.int .i64 0, .int .i64 0, .int .i64 0, .string ⟨#[]⟩] 34) = w1 at *
      refine (HI.out _).mono ?_
      rintro e w2 ⟨rfl, rfl⟩
      clear HI
      have HL1 := fun w => letter_any s[0] w
      have HN1 := fun w => numeric_any s[0] w
      go_upto_region 7 with fail
      go_cut [30] from 31 to 36 (fun b wx => b = .bool sq ∧ wx = w2)
      case first =>
        have hsq := HSQ.out
        rcases seqc_split s[0] with ⟨hl, hq⟩ | ⟨hl, hq⟩
        · rw [hl] at HL1
          rw [hq] at hsq
          subst hsq
          have HL1 := Lib.hid HL1
          clear hl hq HN1 HSQ
          go_wp2_with fail
          refine (HL1.out _).mono ?_
          rintro e w2 ⟨rfl, rfl⟩
          clear HL1
          go_wp2_with fail
          go_meet
          case rel => exact ⟨rfl, rfl⟩
        · rw [hl] at HL1
          rw [← hq, ← hsq] at HN1
          have HL1 := Lib.hid HL1
          have HN1 := Lib.hid HN1
          clear hl hq hsq HSQ
          go_wp2_with fail
          refine (HL1.out _).mono ?_
          rintro e w2 ⟨rfl, rfl⟩
          go_wp2_with fail
          refine (HN1.out _).mono ?_
          rintro e w2 ⟨rfl, rfl⟩
          clear HL1 HN1
          go_wp2_with fail
          go_meet
          case rel => exact ⟨rfl, rfl⟩
      case rest =>
        obtain ⟨rfl, rfl⟩ := hcut
        clear HL1 HN1 HSQ
        cases sq with
        | true =>
          have HC4 : Hid (C = Jsn.sequence s.data.toList) := Lib.hid (HC3.out.trans (if_pos rfl))
          have HQ := Lib.hid (fun w hE => sequence_any s w h1 hs hE)
          clear HC3
          go_wp2_with fail
          refine (HQ.out _ HE.out).mono ?_
          intro e w3 hq
          clear HQ HE
          rw [← HC4.out] at hq
          obtain ⟨k, m, t, c, rfl, hb3, HR⟩ := hq.row (w := w)
          have hB3 := hB0.below hb3 hB0.lt
          have hb4 := hb0.trans (hb3.mono hb0.size)
          have HR2 := Lib.hid HR
          clear hq hB0 hb3 hb0 HR HC4
          go_wp2_with ((with_reducible refine wpList_store_tok rfl (.tmp 2) (.tmp 39) rfl rfl w.heap.size (.int .i64 0) (.int .i64 0) (.int .i64 0) (.string ⟨#[]⟩) k 0 m t ?_ ?_ hB3 ?_); exact rfl; exact rfl)
          refine bodyPost_ret (v := .tuple #[.agg (tokV k m t), .int .i64 c]) (by exact results_cell_tmp rfl _ _ w.heap.size 34 #[.int .i64 k, .int .i64 0, .int .i64 m, .string t] _ (.int .i64 c) rfl rfl (hB3.row _) Tryd.underlying34 rfl tokRow) rfl ?_
          exact HR2.out _ (setRow_below hb4 (Nat.le_refl _) _)
        | false =>
          have HC4 : Hid (C = .bad 4 0) := Lib.hid (HC3.out.trans (if_neg (by simp)))
          clear HC3
          go_wp2_with ((with_reducible refine wpList_store_tok rfl (.tmp 2) (.tmp 41) rfl rfl w.heap.size (.int .i64 0) (.int .i64 0) (.int .i64 0) (.string ⟨#[]⟩) 0 0 0 ⟨#[]⟩ ?_ ?_ hB0 ?_); exact rfl; exact rfl)
          refine bodyPost_ret (v := .tuple #[.agg (tokV 0 0 ⟨#[]⟩), .int .i64 4]) (by exact results_cell_tmp rfl _ _ w.heap.size 34 #[.int .i64 0, .int .i64 0, .int .i64 0, .string ⟨#[]⟩] _ (.int .i64 4) rfl rfl (hB0.row _) Tryd.underlying34 rfl tokRow) rfl ?_
          exact RetTk.mk_bad HC4.out rfl rfl (by decide) (setRow_below hb0 (Nat.le_refl _) _)
end Go.Proofs.YtjfkiomegacpeaaDoor
