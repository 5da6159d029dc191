/-
  The reference's Scan by its contract.
-/
import Derived.Test.YtjfkiomegacpeaaDoorLx6
import Derived.Test.YtjfkiomegacpeaaDoorDec
import Derived.Test.YtjfkiomegacpeaaDoorJsV
namespace Go.Proofs.YtjfkiomegacpeaaDoor
open Go.RowKit
theorem OwnRT.nil (w : World) (base : Nat) : OwnRT w base (.slice none 0 0) [] := World.ownsRow_nil _ _ _ _
theorem own_base {w : World} {base base' n size : Nat} {e : TypeId} {v : Value} {xs : List Value} (h : w.ownsRow base e size v n xs) (hb : base' ≤ base) : w.ownsRow base' e size v n xs := by
  refine ⟨h.1, ?_⟩
  rcases h.2 with hn | ⟨k, cap, cur, rfl, hbk, hk, r⟩
  · exact Or.inl hn
  · exact Or.inr ⟨k, cap, cur, rfl, Nat.le_trans hb hbk, hk, r⟩
def RetRO (w : World) (o : Out) (e : Go.Ending) (w' : World) : Prop := (∃ tv nv, e = .returned (.tuple #[tv, nv, .int .i64 (o.at_ : Int), .int .i64 (o.code : Int)]) ∧ OwnRT w' w.heap.size tv o.toks ∧ OwnNote w' w.heap.size nv o.notes) ∧ Below w.heap.size w w'
theorem step_pos {l : List UInt8} (hl : l ≠ []) : (∀ m, Jsn.step l = .note m → 1 ≤ m ∧ m ≤ l.length) ∧ (∀ k m t, Jsn.step l = .tok k m t → 1 ≤ m ∧ m ≤ l.length) :=
  ⟨fun m h => ⟨Nat.le_trans (by decide) (Jsn.step_note h).1, (Jsn.step_note h).2.1⟩, fun k m t h => ⟨(Jsn.step_tok hl h).1, (Jsn.step_tok hl h).2.1⟩⟩
set_option maxRecDepth 100000 in
set_option maxHeartbeats 8000000 in
theorem rscan_good (s : ByteArray) (w : World) (hs : s.size ≤ 65536) (h : chk (s.size + 1) 0 s.data.toList = none) :
    Calls Tryd.prog 11 #[.string s] w (RetRO w (match Jsn.scan s.data.toList with | .ok T N => ⟨T, N, 0, 0⟩ | .bad e n => ⟨[], [], n, e⟩)) := by
  have HD := Lib.hid (decode_any s w (by omega))
  rw [h] at HD
  obtain ⟨C, hC⟩ : ∃ C, C = Jsn.scan s.data.toList := ⟨_, rfl⟩
  rw [← hC]
  have HC0 : Hid (C = (Jsn.scan (s.data.toList.drop 0)).app 0 [] []) := Lib.hid (hC.trans (Jsn.scan_app0 _))
  have HCD : Hid (∀ c n, C = .bad c n → c ≠ 0) := Lib.hid (fun c n e => scan_code _ _ (Nat.le_refl _) c n (hC.symm.trans e))
  have hs2 : ¬ (65536 : Int) < (s.size : Int) := by omega
  clear h hC
  go_enter Tryd.func11, Tryd.ntmps11
  go_wp2_with fail
  refine HD.out.mono ?_
  rintro e w1 ⟨⟨v1, rfl⟩, hb1⟩
  clear HD
  have hcv : (chkV none).1 = -1 := rfl
  rw [hcv]
  go_wp2_with fail
  have hL0 : LxB (w1.alloc (.cells #[.string s, .int .i64 0, .slice none 0 0, .slice none 0 0, .int .i64 0, .int .i64 0] 60)) w1.heap.size s 0 (.slice none 0 0) (.slice none 0 0) 0 0 := Blk.new _ _ _
  have hb2 : Below w.heap.size w (w1.alloc (.cells #[.string s, .int .i64 0, .slice none 0 0, .slice none 0 0, .int .i64 0, .int .i64 0] 60)) := hb1.alloc hb1.size _
  generalize w1.alloc (.cells #[.string s, .int .i64 0, .slice none 0 0, .slice none 0 0, .int .i64 0, .int .i64 0] 60) = w2 at *
  have hgw : w.heap.size ≤ w1.heap.size := hb1.size
  generalize w1.heap.size = g at *
  go_loopg [] (s.size + 1) (fun gg wr => Below w.heap.size w wr ∧ ((∃ (q : Nat) (T : List Jsn.T) (N : List Jsn.Note), gg + q = s.size + 1 ∧ q ≤ s.size ∧ T.length ≤ q ∧ N.length ≤ q ∧ LxOk wr g s q T N 0 ∧ Hid (C = (Jsn.scan (s.data.toList.drop q)).app q T N)) ∨ (gg = 0 ∧ ∃ e n : Nat, e ≠ 0 ∧ LxBad wr g s e n ∧ Hid (C = .bad e n))))
  case atStart => exact ⟨hb2, .inl ⟨0, [], [], rfl, Nat.zero_le _, Nat.le_refl _, Nat.le_refl _, ⟨_, _, hL0, OwnRT.nil _ _, World.ownsRow_nil _ _ _ _⟩, HC0⟩⟩
  case round =>
    clear HC0 hL0 hb2
    obtain ⟨hbr, hAB⟩ := hrel
    rcases hAB with ⟨q, T, N, hg, hq, hT, hN, hOk, HC⟩ | ⟨hg0, e, n, he, hBad, HC⟩
    · by_cases hqs : q < s.size
      · have HNx := lnext_any g s q T N 0 wr hOk hs hqs (by omega) (by omega)
        have hC := HC.out.trans (Jsn.scan_at q T N _ _ (drop_at s q hqs))
        have hne : s.data.toList.drop q ≠ [] := by rw [drop_at s q hqs]; simp
        have hps := step_pos hne
        have hlen : (s.data.toList.drop q).length = s.size - q := by rw [List.length_drop, size_toList]
        rw [hlen] at hps
        obtain ⟨tv, nv, hL, -, -⟩ := hOk
        obtain ⟨-, d1, -, -, d4, -⟩ := hL.cells
        clear HC hne hlen
        cases hst : Jsn.step (s.data.toList.drop q) with
        | skip =>
          rw [hst] at hC HNx
          have HN2 := Lib.hid HNx
          have HC2 : Hid (C = (Jsn.scan (s.data.toList.drop (q + 1))).app (q + 1) T N) := Lib.hid hC
          clear hC HNx hst hps HCD
          go_wp2_with fail
          refine HN2.out.mono ?_
          rintro e w5 ⟨rfl, hr, hb5⟩
          go_wp2_with fail
          go_roundg (s.size + 1 - (q + 1))
          case measure => omega
          case rel => exact ⟨hbr.trans (hb5.mono hgw), .inl ⟨q + 1, T, N, by omega, by omega, by omega, by omega, hr, HC2⟩⟩
        | note m =>
          rw [hst] at hC HNx
          obtain ⟨m1, m2⟩ := hps.1 m hst
          have HN2 := Lib.hid HNx
          have HC2 : Hid (C = (Jsn.scan (s.data.toList.drop (q + m))).app (q + m) T (N ++ [⟨q, q + m, (s.data.toList.drop q).take m⟩])) := Lib.hid hC
          clear hC HNx hst hps HCD
          go_wp2_with fail
          refine HN2.out.mono ?_
          rintro e w5 ⟨rfl, hr, hb5⟩
          go_wp2_with fail
          go_roundg (s.size + 1 - (q + m))
          case measure => omega
          case rel => exact ⟨hbr.trans (hb5.mono hgw), .inl ⟨q + m, T, _, by omega, by omega, by omega, by rw [List.length_append]; simp only [List.length_singleton]; omega, hr, HC2⟩⟩
        | tok k m t =>
          rw [hst] at hC HNx
          obtain ⟨m1, m2⟩ := hps.2 k m t hst
          have HN2 := Lib.hid HNx
          have HC2 : Hid (C = (Jsn.scan (s.data.toList.drop (q + m))).app (q + m) (T ++ [⟨k, q, q + m, t⟩]) N) := Lib.hid hC
          clear hC HNx hst hps HCD
          go_wp2_with fail
          refine HN2.out.mono ?_
          rintro e w5 ⟨rfl, hr, hb5⟩
          go_wp2_with fail
          go_roundg (s.size + 1 - (q + m))
          case measure => omega
          case rel => exact ⟨hbr.trans (hb5.mono hgw), .inl ⟨q + m, _, N, by omega, by omega, by rw [List.length_append]; simp only [List.length_singleton]; omega, by omega, hr, HC2⟩⟩
        | bad c m =>
          rw [hst] at hC HNx
          have hc := HCD.out c (q + m) hC
          have HN2 := Lib.hid HNx
          have HC2 : Hid (C = .bad c (q + m)) := Lib.hid hC
          clear hC HNx hst hps HCD
          go_wp2_with fail
          refine HN2.out.mono ?_
          rintro e w5 ⟨rfl, hr, hb5⟩
          go_wp2_with fail
          go_roundg 0
          case measure => omega
          case rel => exact ⟨hbr.trans (hb5.mono hgw), .inr ⟨rfl, c, q + m, hc, hr, HC2⟩⟩
      · have hV : C = .ok T N := by rw [HC.out]; exact Jsn.scan_at_end q T N _ (List.drop_of_length_le (by rw [size_toList]; omega))
        subst hV
        obtain ⟨tv, nv, hL, hOT, hON⟩ := hOk
        obtain ⟨-, d1, d2, d3, d4, -⟩ := hL.cells
        have hq2 : ¬ (q : Int) < (s.size : Int) := by omega
        clear HC HCD
        go_wp2_with fail
        go_quiet (fail)
        go_wp2_with fail
        refine bodyPost_ret (v := .tuple #[tv, nv, .int .i64 0, .int .i64 0]) (by simp [results, Tryd.results11, go_sem]) rfl ?_
        exact ⟨⟨tv, nv, rfl, own_base (show OwnRT (wr.drewN _) (g + 1) tv T from hOT) (by omega), own_base (show OwnNote (wr.drewN _) (g + 1) nv N from hON) (by omega)⟩, drewN_below hbr _⟩
    · have hV := HC.out
      subst hV
      obtain ⟨k, tv, nv, hL⟩ := hBad
      obtain ⟨-, d1, -, -, d4, d5⟩ := hL.cells
      have e0 : ((e : Int) == 0) = false := by rw [beq_eq_false_iff_ne]; omega
      have e1 : ((e : Int) != 0) = true := by unfold bne; rw [e0]; rfl
      clear HC HCD
      go_wp2_with fail
      go_quiet (fail)
      go_wp2_with fail
      refine bodyPost_ret (v := .tuple #[.slice none 0 0, .slice none 0 0, .int .i64 (n : Int), .int .i64 (e : Int)]) (by simp [results, Tryd.results11, go_sem]) rfl ?_
      exact ⟨⟨_, _, rfl, OwnRT.nil _ _, World.ownsRow_nil _ _ _ _⟩, drewN_below hbr _⟩
set_option maxRecDepth 100000 in
set_option maxHeartbeats 4000000 in
theorem rscan_text (s : ByteArray) (w : World) (hs : s.size ≤ 65536) (p : Nat) (h : chk (s.size + 1) 0 s.data.toList = some p) :
    Calls Tryd.prog 11 #[.string s] w fun e w' => e = .returned (.tuple #[.slice none 0 0, .slice none 0 0, .int .i64 (p : Int), .int .i64 11]) ∧ Below w.heap.size w w' := by
  have HD := Lib.hid (decode_any s w (by omega))
  rw [h] at HD
  have hs2 : ¬ (65536 : Int) < (s.size : Int) := by omega
  clear h
  go_enter Tryd.func11, Tryd.ntmps11
  go_wp2_with fail
  refine HD.out.mono ?_
  rintro e w1 ⟨⟨v1, rfl⟩, hb1⟩
  have hcv : (chkV (some p)).1 = (p : Int) := rfl
  rw [hcv]
  go_wp2_with fail
  refine bodyPost_ret (v := .tuple #[.slice none 0 0, .slice none 0 0, .int .i64 (p : Int), .int .i64 11]) (by simp [results, Tryd.results11, go_sem]) rfl ?_
  exact ⟨rfl, hb1⟩
theorem rscan_out (s : ByteArray) (w : World) (hs : s.size ≤ 65536) :
    Calls Tryd.prog 11 #[.string s] w (RetRO w (outOf s.data.toList)) := by
  unfold outOf
  rw [size_toList]
  cases h : chk (s.size + 1) 0 s.data.toList with
  | some p => exact (rscan_text s w hs p h).mono fun e w' ⟨he, hb⟩ => ⟨⟨_, _, he, World.ownsRow_nil _ _ _ _, World.ownsRow_nil _ _ _ _⟩, hb⟩
  | none =>
    have hg := rscan_good s w hs h
    simp only
    cases h2 : Jsn.scan s.data.toList with
    | ok T N => rw [h2] at hg; exact hg
    | bad e n => rw [h2] at hg; exact hg
end Go.Proofs.YtjfkiomegacpeaaDoor
