/-
  TomllexCovers: true at every source; joined.
-/
import Derived.Test.YtdhbljbfjdlcdaaDoorCovW
namespace Go.Proofs.YtdhbljbfjdlcdaaDoor
open Go.RowKit
theorem outOf_bad {l : List UInt8} (h : (outOf l).code ≠ 0) : (outOf l).toks = [] ∧ (outOf l).notes = [] := by
  unfold outOf at *
  cases hc : chk (l.length + 1) 0 l with
  | some p => exact ⟨rfl, rfl⟩
  | none =>
    rw [hc] at h
    simp only at h ⊢
    cases hs : Tom.scan l with
    | ok T N => rw [hs] at h; exact absurd rfl h
    | bad n => exact ⟨rfl, rfl⟩
set_option maxRecDepth 100000 in
set_option maxHeartbeats 4000000 in
theorem tomllexCovers_any (s : ByteArray) (w : World) (hT : Lib.Utf8Tabs (Tryd.lays197_ren.g 3) (Tryd.lays197_ren.g 4) w) :
    Calls Tryd.prog 7 #[.string s] w fun e w' => e = .returned (.bool true) ∧ Below w.heap.size w w' := by
  by_cases hs : s.size ≤ 1000
  · by_cases hc : (outOf s.data.toList).code = 0
    · obtain ⟨T, N, sa, ta, ea⟩ := outOf_ok hc
      obtain ⟨T0, hT0, _⟩ := Tom.scan_join _ _ T N (Nat.le_refl _) ta
      have bd := Tom.scan_bd _ _ _ _ (Nat.le_refl _) ta
      have nt := Tom.scan_notes _ _ _ _ (Nat.le_refl _) ta
      obtain ⟨M, hp, hcv⟩ := Tom.scan_cov _ _ _ _ (Nat.le_refl _) ta
      rw [size_toList] at *
      subst hT0
      refine covers_go s hs w hT T0 N ea (fun t ht => by have := bd.2.2.2 t ht; omega) ?_ (by omega) nt M hp hcv
      have := bd.2.1
      simp only [List.length_append, List.length_cons, List.length_nil] at this
      omega
    · have hb := outOf_bad hc
      have HA := Lib.hid (scan_out s w (by omega) hT)
      have HW := Lib.hid (fun w1 (hb : Below w.heap.size w w1) => awake_any w1 (Utf8Tabs_below hT hb))
      obtain ⟨o, hoe⟩ : ∃ o, o = outOf s.data.toList := ⟨_, rfl⟩
      rw [← hoe] at HA hb hc
      have h2 : ¬ 1000 < (s.size : Int) := by omega
      have hc1 : ((o.code : Int) != 0) = true := by rw [bne_iff_ne]; omega
      obtain ⟨hb1, hb2⟩ := hb
      clear hT hc hoe
      go_enter Tryd.func7, Tryd.ntmps7
      go_wp2_with fail
      refine HA.out.mono ?_
      rintro e w1 ⟨⟨tv, nv, rfl, hot, hon⟩, hw1⟩
      rw [hb1] at hot
      rw [hb2] at hon
      obtain ⟨ao, ac, rfl, hac, RA⟩ := row_at hot
      obtain ⟨xo, xc, rfl, hxc, RX⟩ := row_at hon
      clear hot hon RA RX
      go_wp2_with fail
      refine (HW.out w1 hw1).mono ?_
      rintro e w6 ⟨rfl, k6⟩
      go_wp2_with fail
      go_ret
      exact ⟨rfl, hw1.trans (k6.mono hw1.size)⟩
  · have HW := Lib.hid (awake_any w hT)
    clear hT
    have h2 : 1000 < (s.size : Int) := by omega
    clear hs
    go_enter Tryd.func7, Tryd.ntmps7
    go_wp2_with fail
    refine HW.out.mono ?_
    rintro e w6 ⟨rfl, k6⟩
    go_wp2_with fail
    go_ret
    exact ⟨rfl, k6⟩
end Go.Proofs.YtdhbljbfjdlcdaaDoor
