/-
  The reference's lexer: comment by its contract. Laid by wip/gen/lxcom.py.
-/
import Derived.Test.YtjfkiomegacpeaaDoorLx4
import Derived.Deep.RegionHeldLaw
import Derived.Deep.DrawnRows
namespace Go.Proofs.YtjfkiomegacpeaaDoor
open Go.RowKit
attribute [local go_sem ↓] Go.wp_at_zero Go.wp_at_succ
theorem close_step (c : UInt8) (r : List UInt8) : Jsn.close (c :: r) = if h2 42 47 (c :: r) then some 0 else (Jsn.close r).map (· + 1) := by
  cases r with
  | nil => rfl
  | cons b r => rfl
theorem run_nl (l : List UInt8) (c : UInt8) : Jsn.run (fun c => c != 10) (c :: l) = if c = 10 then 0 else Jsn.run (fun c => c != 10) l + 1 := by
  rw [Jsn.run_cons]
  by_cases h : c = 10
  · rw [if_pos h, h]; rfl
  · rw [if_neg h, if_pos (bne_iff_ne.2 h)]
theorem h2_of {l : List UInt8} {x y : UInt8} (h : h2 x y l = true) : ∃ r, l = x :: y :: r := by
  match l, h with
  | [], h => cases h
  | [_], h => cases h
  | p :: q :: r, h =>
    have h3 : (p == x && q == y) = true := h
    rw [Bool.and_eq_true, beq_iff_eq, beq_iff_eq] at h3
    exact ⟨r, by rw [h3.1, h3.2]⟩
def RetCm (g : Nat) (s : ByteArray) (i : Nat) (T : List Jsn.T) (N : List Jsn.Note) (a : Int) (w : World) (r : Option Nat) (e : Go.Ending) (w' : World) : Prop :=
  e = .returned (.tuple #[]) ∧ (match r with
    | some m => LxOk w' g s (i + m) T (N ++ [⟨i, i + m, (s.data.toList.drop i).take m⟩]) a
    | none => LxBad w' g s 4 i) ∧ Below g w w'
theorem slash_len {s : ByteArray} {i : Nat} {x y : UInt8} (h : h2 x y (s.data.toList.drop i) = true) : i + 2 ≤ s.size := by
  obtain ⟨r0, hr0⟩ := h2_of h
  have := congrArg List.length hr0
  rw [List.length_drop, size_toList] at this
  simp at this
  omega
theorem com_line {s : ByteArray} {i : Nat} (h : h2 47 47 (s.data.toList.drop i) = true) : Jsn.comment (s.data.toList.drop i) = some (Jsn.run (fun c => c != 10) (s.data.toList.drop i)) := by
  obtain ⟨r0, hr0⟩ := h2_of h
  rw [hr0, run_nl, run_nl, if_neg (by decide), if_neg (by decide)]
  show some (2 + Jsn.run (fun c => c != 10) r0) = _
  congr 1
  omega
theorem com_blk {s : ByteArray} {i : Nat} (h : h2 47 42 (s.data.toList.drop i) = true) : Jsn.comment (s.data.toList.drop i) = (Jsn.close (s.data.toList.drop (i + 2))).map (fun k => k + (i + 2 - (i + 2)) + 4) := by
  obtain ⟨r0, hr0⟩ := h2_of h
  have h3 := List.drop_drop (i := 2) (j := i) (l := s.data.toList)
  rw [hr0] at h3
  rw [← h3, hr0, Nat.sub_self]
  rfl
set_option maxRecDepth 100000 in
set_option maxHeartbeats 0 in
theorem lcom_any (g : Nat) (s : ByteArray) (i : Nat) (T : List Jsn.T) (N : List Jsn.Note) (a : Int) (w : World) (h : LxOk w g s i T N a) (hs : s.size ≤ 65536) (hN : N.length ≤ 65536) (hh : h2 47 47 (s.data.toList.drop i) = true ∨ h2 47 42 (s.data.toList.drop i) = true) :
    Calls Tryd.prog 37 #[.pointer (some ⟨g, 0, none⟩)] w (RetCm g s i T N a w (Jsn.comment (s.data.toList.drop i))) := by
  obtain ⟨tv, nv, hB, hOT, hON⟩ := h
  have hlen : i + 2 ≤ s.size := by rcases hh with h | h <;> exact slash_len h
  obtain ⟨V, hVV⟩ : ∃ V, V = Jsn.comment (s.data.toList.drop i) := ⟨_, rfl⟩
  rw [← hVV]
  have HVV := Lib.hid hVV
  have HHH := Lib.hid hh
  have hB0 : LxB w g s i tv nv 0 a := hB
  obtain ⟨hb1, hhb1⟩ : ∃ b, b = h2 47 47 (s.data.toList.drop i) := ⟨_, rfl⟩
  have hhas := fun w1 (h1 : LxB w1 g s i tv nv 0 a) => lhas_any g s i tv nv 0 a 47 47 w1 h1 hs (by omega)
  rw [← hhb1] at hhas
  have HHB1 := Lib.hid hhb1
  have HH := Lib.hid hhas
  have hgw := hB.lt
  obtain ⟨-, c1, -, -, -, -⟩ := hB.cells
  clear hVV hh hhas hB hhb1
  go_enter Tryd.func37, Tryd.ntmps37
  go_upto_if 8 with (go_at_call 36; refine (HH.out _ hB0).mono ?_; rintro e w2 ⟨rfl, n2, rfl⟩)
  have hL0 : LxB (w.drewN n2) g s i tv nv 0 a := hB0
  have hU0 : Upd g w (w.drewN n2) := Upd.of (below_drewN _ _) (Nat.le_of_lt hgw)
  generalize w.drewN n2 = w0 at *
  clear c1 hB0 HH
  go_cut [] from 9 to 86 (fun wx => ∃ q : Nat, i ≤ q ∧ q ≤ s.size ∧ Hid (V = some (q - i)) ∧ LxB wx g s q tv nv 0 a ∧ Upd g w wx)
  case first =>
    cases hb1 with
    | true =>
      obtain ⟨m, hm⟩ : ∃ m, m = i + Jsn.run (fun c => c != 10) (s.data.toList.drop i) := ⟨_, rfl⟩
      have hrl := Jsn.run_le (fun c => c != 10) (s.data.toList.drop i)
      rw [List.length_drop, size_toList] at hrl
      have HVm0 : Hid (V = some (m - i)) := Lib.hid (by rw [HVV.out, com_line HHB1.out.symm]; congr 1; omega)
      have HM := Lib.hid hm
      have hm2 : m ≤ s.size := by omega
      have him : i ≤ m := by omega
      have hL1 := hL0
      have hU1 := hU0
      clear hm hrl HVV HHH HHB1 hL0 hU0
      go_wp2_with fail
      go_loopg [] (s.size - i) (fun gg wr => ∃ q : Nat, q + gg = s.size ∧ i ≤ q ∧ Hid (m = q + Jsn.run (fun c => c != 10) (s.data.toList.drop q)) ∧ LxB wr g s q tv nv 0 a ∧ Upd g w wr)
      case atStart => exact ⟨i, by omega, Nat.le_refl _, HM, hL1, hU1⟩
      case round =>
        clear HM hL1 hU1
        obtain ⟨q, hq, hiq, HM, hL, hU⟩ := hrel
        obtain ⟨d0, d1, -, -, -, -⟩ := hL.cells
        have hrq := Jsn.run_le (fun c => c != 10) (s.data.toList.drop q)
        rw [List.length_drop, size_toList] at hrq
        have hqe : q ≤ s.size := by omega
        have hqm0 : q ≤ m := by have := HM.out; omega
        obtain ⟨bb, hbb⟩ : ∃ b, b = decide (q < m) := ⟨_, rfl⟩
        have hbq : ∀ h : q < s.size, bb = true ∧ s[q] ≠ 10 ∨ bb = false ∧ s[q] = 10 := fun h => by
          have hM := HM.out
          rw [drop_at s q h, run_nl] at hM
          rw [hbb]
          by_cases h2 : s[q] = 10
          · rw [if_pos h2] at hM; exact .inr ⟨decide_eq_false (by omega), h2⟩
          · rw [if_neg h2] at hM; exact .inl ⟨decide_eq_true (by omega), h2⟩
        have HBQ := Lib.hid hbq
        have HBB := Lib.hid hbb
        have hbz : ¬ q < s.size → bb = false := fun h => by rw [hbb]; exact decide_eq_false (by omega)
        have HBZ := Lib.hid hbz
        clear hbq hbb hbz hrq
        go_upto_region 2 with fail
        go_cut [30] from 9 to 30 (fun b wx => b = .bool bb ∧ LxB wx g s q tv nv 0 a ∧ Upd g w wx)
        case first =>
          by_cases hqs : q < s.size
          · have b0 : decide ((q : Int) < (s.size : Int)) = true := decide_eq_true (by omega)
            have b1 : (q : Int) < (s.size : Int) := by omega
            have b2 : 0 ≤ (q : Int) := by omega
            have hbb2 := HBQ.out hqs
            clear HBQ HBB HBZ HM
            rcases hbb2 with ⟨rfl, h10⟩ | ⟨rfl, h10⟩
            · have n10 : ((s[q].toNat : Int) == 10) = false := byte_ne 10 h10
              have n10' : ((s[q].toNat : Int) != 10) = true := by unfold bne; rw [n10]; rfl
              go_wp2_with fail
              go_quiet (fail)
              go_wp2_with fail
              go_meet
              case rel => exact ⟨rfl, hL, hU.trans (Upd.of (below_drewN _ _) (Nat.le_of_lt hL.lt))⟩
            · have n10 : ((s[q].toNat : Int) == 10) = true := by rw [h10]; rfl
              have n10' : ((s[q].toNat : Int) != 10) = false := by unfold bne; rw [n10]; rfl
              go_wp2_with fail
              go_quiet (fail)
              go_wp2_with fail
              go_meet
              case rel => exact ⟨rfl, hL, hU.trans (Upd.of (below_drewN _ _) (Nat.le_of_lt hL.lt))⟩
          · obtain rfl : bb = false := HBZ.out hqs
            have b0 : decide ((q : Int) < (s.size : Int)) = false := decide_eq_false (by omega)
            clear HBQ HBB HBZ HM
            go_wp2_with fail
            go_quiet (fail)
            go_wp2_with fail
            go_meet
            case rel => exact ⟨rfl, hL, hU.trans (Upd.of (below_drewN _ _) (Nat.le_of_lt hL.lt))⟩
        case rest =>
          obtain ⟨rfl, hL3, hU3⟩ := hcut
          clear hL hU d0 d1 HBZ
          cases bb with
          | true =>
            have hqm : q < m := of_decide_eq_true HBB.out.symm
            have hqs : q < s.size := by omega
            have HM2 : Hid (m = q + 1 + Jsn.run (fun c => c != 10) (s.data.toList.drop (q + 1))) := Lib.hid (by
              have hM := HM.out
              have h10 : s[q] ≠ 10 := by
                rcases HBQ.out hqs with h | h
                · exact h.2
                · cases h.1
              rw [drop_at s q hqs, run_nl, if_neg h10] at hM
              omega)
            clear HM HBQ HBB
            obtain ⟨-, d1, -, -, -, -⟩ := hL3.cells
            have d6 := hL3.free 1
            go_wp2_with fail
            go_roundg (s.size - (q + 1))
            case measure => omega
            case rel => exact ⟨q + 1, by omega, by omega, HM2, hL3.setI (q + 1) _ (by omega), hU3.cell 1 _⟩
          | false =>
            have hqm : q = m := by have := of_decide_eq_false HBB.out.symm; omega
            subst hqm
            have HVm := HVm0
            clear HM HBQ HBB HVm0
            obtain ⟨d0, d1, -, -, -, -⟩ := hL3.cells
            go_wp2_with fail
            go_meet
            case rel => exact ⟨q, hiq, hqe, HVm, hL3, hU3⟩
    | false =>
      have hh2 : h2 47 42 (s.data.toList.drop i) = true := by
        rcases HHH.out with h | h
        · rw [← HHB1.out] at h; cases h
        · exact h
      have HV0 := Lib.hid (HVV.out.trans (com_blk hh2))
      obtain ⟨-, y1, -, -, -, -⟩ := hL0.cells
      have y7 := hL0.free 1
      have hL1 := hL0.setI (i + 2) ((i : Int) + 2) (by omega)
      have hU1 := hU0.cell 1 (.int .i64 ((i : Int) + 2))
      clear HVV HHH HHB1 hh2 hU0
      go_wp2_with fail
      generalize w0.setCell ⟨g, 1, none⟩ (.int .i64 ((i : Int) + 2)) = w1 at *
      clear y1 y7 hL0
      go_loopg [] (s.size - (i + 2)) (fun gg wr => ∃ q : Nat, q + gg = s.size ∧ i + 2 ≤ q ∧ Hid (V = (Jsn.close (s.data.toList.drop q)).map (fun k => k + (q - (i + 2)) + 4)) ∧ LxB wr g s q tv nv 0 a ∧ Upd g w wr)
      case atStart => exact ⟨i + 2, by omega, Nat.le_refl _, HV0, hL1, hU1⟩
      case round =>
        clear HV0 hL1 hU1
        obtain ⟨q, hq, hiq, HV, hL, hU⟩ := hrel
        obtain ⟨d0, d1, -, -, -, -⟩ := hL.cells
        have hqe : q ≤ s.size := by omega
        have HH := Lib.hid (fun w1 (h1 : LxB w1 g s q tv nv 0 a) => lhas_any g s q tv nv 0 a 42 47 w1 h1 hs hqe)
        obtain ⟨hb, hhb⟩ : ∃ b, b = h2 42 47 (s.data.toList.drop q) := ⟨_, rfl⟩
        rw [← hhb] at HH
        have HHB := Lib.hid hhb
        clear hhb
        obtain ⟨bb, hbb⟩ : ∃ b, b = (decide (q < s.size) && !hb) := ⟨_, rfl⟩
        have HBB := Lib.hid hbb
        clear hbb
        go_upto_region 5 with fail
        go_cut [59] from 45 to 59 (fun b wx => b = .bool bb ∧ LxB wx g s q tv nv 0 a ∧ Upd g w wx)
        case first =>
          by_cases hqs : q < s.size
          · have b0 : decide ((q : Int) < (s.size : Int)) = true := decide_eq_true (by omega)
            have hbb2 : bb = !hb := by rw [HBB.out, decide_eq_true hqs, Bool.true_and]
            subst hbb2
            clear HBB HHB HV
            go_wp2_with fail
            go_quiet ((go_at_call 36; first | exact quiet_at (HH.out _ hL) | exact Calls.quiet_of (HH.out _ hL)))
            go_wp2_with fail
            go_meet
            case rel => exact ⟨rfl, hL, hU.trans (Upd.of (below_drewN _ _) (Nat.le_of_lt hL.lt))⟩
          · have b0 : decide ((q : Int) < (s.size : Int)) = false := decide_eq_false (by omega)
            have hbb2 : bb = false := by rw [HBB.out, decide_eq_false hqs, Bool.false_and]
            subst hbb2
            clear HBB HHB HV HH
            go_wp2_with fail
            go_quiet (fail)
            go_wp2_with fail
            go_meet
            case rel => exact ⟨rfl, hL, hU.trans (Upd.of (below_drewN _ _) (Nat.le_of_lt hL.lt))⟩
        case rest =>
          obtain ⟨rfl, hL3, hU3⟩ := hcut
          clear hL hU d0 d1 HH
          cases bb with
          | true =>
            have hqs : q < s.size := by
              have := HBB.out
              by_cases h : q < s.size
              · exact h
              · rw [decide_eq_false h, Bool.false_and] at this; cases this
            have hbf : hb = false := by
              have := HBB.out
              cases hb with
              | false => rfl
              | true => rw [Bool.not_true, Bool.and_false] at this; cases this
            have HV2 : Hid (V = (Jsn.close (s.data.toList.drop (q + 1))).map (fun k => k + (q + 1 - (i + 2)) + 4)) := Lib.hid (by
              have h4 := HHB.out
              rw [hbf, drop_at s q hqs] at h4
              rw [HV.out, drop_at s q hqs, close_step, if_neg (by rw [← h4]; decide), Option.map_map]
              congr 1
              funext k
              simp only [Function.comp]
              omega)
            clear HV HHB HBB hbf
            obtain ⟨-, d1, -, -, -, -⟩ := hL3.cells
            have d6 := hL3.free 1
            go_wp2_with fail
            go_roundg (s.size - (q + 1))
            case measure => omega
            case rel => exact ⟨q + 1, by omega, by omega, HV2, hL3.setI (q + 1) _ (by omega), hU3.cell 1 _⟩
          | false =>
            obtain ⟨d0, d1, -, -, -, -⟩ := hL3.cells
            by_cases hqs : q < s.size
            · have hbt : hb = true := by
                have := HBB.out
                rw [decide_eq_true hqs, Bool.true_and] at this
                cases hb with
                | true => rfl
                | false => cases this
              have HV2 : Hid (V = some (q + 2 - i)) := Lib.hid (by
                have h4 := HHB.out
                rw [hbt, drop_at s q hqs] at h4
                rw [HV.out, drop_at s q hqs, close_step, if_pos h4.symm]
                show some (0 + (q - (i + 2)) + 4) = _
                congr 1
                omega)
              have hq2s : q + 2 ≤ s.size := by
                obtain ⟨r1, hr1⟩ := h2_of (by rw [← HHB.out, hbt] : h2 42 47 (s.data.toList.drop q) = true)
                have := congrArg List.length hr1
                rw [List.length_drop, size_toList] at this
                simp at this
                omega
              have n0 : ((q : Int) == (s.size : Int)) = false := by rw [beq_eq_false_iff_ne]; omega
              clear HV HHB HBB hbt
              go_wp2_with fail
              go_quiet (fail)
              have hL4 : LxB (wc.drewN nq) g s q tv nv 0 a := hL3
              have hU4 : Upd g w (wc.drewN nq) := hU3.trans (Upd.of (below_drewN _ _) (Nat.le_of_lt hL3.lt))
              generalize wc.drewN nq = w4 at *
              clear hL3 hU3 d0 d1
              obtain ⟨d0, d1, -, -, -, -⟩ := hL4.cells
              have d6 := hL4.free 1
              have hL5 := hL4.setI (q + 2) ((q : Int) + 2) (by omega)
              have hU5 := hU4.cell 1 (.int .i64 ((q : Int) + 2))
              go_wp2_with fail
              go_meet
              case rel => exact ⟨q + 2, by omega, hq2s, HV2, hL5, hU5⟩
            · have HVn : Hid (V = none) := Lib.hid (by rw [HV.out, List.drop_of_length_le (by rw [size_toList]; omega)]; rfl)
              have n0 : ((q : Int) == (s.size : Int)) = true := by rw [beq_iff_eq]; omega
              have HFL := Lib.hid (fun w1 (h1 : LxB w1 g s q tv nv 0 a) => lfail_any g s q tv nv 0 a 4 (i : Int) w1 h1)
              clear HV HHB HBB
              go_wp2_with fail
              go_quiet (fail)
              have hL4 : LxB (wc.drewN nq) g s q tv nv 0 a := hL3
              have hU4 : Upd g w (wc.drewN nq) := hU3.trans (Upd.of (below_drewN _ _) (Nat.le_of_lt hL3.lt))
              generalize wc.drewN nq = w4 at *
              go_wp2_with (go_at_call 42; with_reducible refine (HFL.out _ hL4).mono ?_; rintro e w8 ⟨rfl, hL8, hU8⟩)
              refine bodyPost_ret (results_none rfl _ _ _) rfl ?_
              have hVo := HVn.out
              subst hVo
              exact ⟨rfl, ⟨q, tv, nv, hL8⟩, (hU4.trans hU8).1⟩
  case rest =>
    obtain ⟨q, hiq, hqe, HVm, hL3, hU3⟩ := hcut
    clear HVV HHH HHB1 hL0 hU0
    go_upto_region 10 with fail
    obtain ⟨y0, y1, -, y3, -, -⟩ := hL3.cells
    have y7 := hL3.free 3
    obtain ⟨-, -, -, y3a, -, -⟩ := (hL3.keep (below_alloc (.cells #[.int .i64 (i : Int), .int .i64 (q : Int), .string (s.extract i q)] 36))).cells
    have hOT5 := own_upd hOT (Nat.lt_succ_self g) hU3
    have hON5 := own_upd hON (Nat.lt_succ_self g) hU3
    have hlt5 := hL3.lt
    have z1 : (i : Int) ≤ (q : Int) := by omega
    have z2 : (q : Int) ≤ (s.size : Int) := by omega
    have z3 : 0 ≤ (i : Int) := by omega
    have z4 : 0 ≤ (q : Int) := by omega
    obtain ⟨y0b, y1b, -, -, -, -⟩ := (hL3.keep (below_alloc (.cells #[.int .i64 (i : Int), .int .i64 (q : Int), .string (s.extract i q)] 36))).cells
    refine wp_region_held_drew (S := (fun w' => w'.cell? ⟨g, 0, none⟩ = some (.string s) ∧ w'.cell? ⟨g, 1, none⟩ = some (.int .i64 (q : Int)))) (by kernel_rfl) ?_ (fun hHeld => ?_)
    · ((try dsimp only); (first | exact ⟨y0, y1⟩ | exact ⟨y0b, y1b⟩ | exact ⟨e0, e1⟩ | exact ⟨(hL6.setN _).cells.1, (hL6.setN _).cells.2.1⟩))
    refine wpAnyH_take (i := 0) (oi := _) (v := ?_) rfl (by kernel_rfl) (by kernel_rfl) (by kernel_rfl) (fun _ _ _ h => h) (Or.inl ⟨by rfl, ?_⟩) (by assumption) ?_
    rotate_left
    · ((intro w hSw; (try dsimp only at hSw); go_simp) <;> with_reducible rfl)
    refine wpAnyH_take (i := 1) (oi := _) (v := ?_) rfl (by kernel_rfl) (by kernel_rfl) (by kernel_rfl) (fun _ _ _ h => h) (Or.inl ⟨by rfl, ?_⟩) (by assumption) ?_
    rotate_left
    · ((intro w hSw; (try dsimp only at hSw); go_simp) <;> with_reducible rfl)
    refine wpAnyH_take (i := 2) (oi := _) (v := ?_) rfl (by kernel_rfl) (by kernel_rfl) (by kernel_rfl) (fun _ _ _ h => h) (Or.inl ⟨by rfl, ?_⟩) (by assumption) ?_
    rotate_left
    · ((intro w hSw; (try dsimp only at hSw); go_simp) <;> with_reducible rfl)
    refine wpAnyH_take (i := 3) (oi := _) (v := ?_) rfl (by kernel_rfl) (by kernel_rfl) (by kernel_rfl) (fun _ _ _ h => h) (Or.inl ⟨by rfl, ?_⟩) (by assumption) ?_
    rotate_left
    · ((intro w hSw; (try dsimp only at hSw); go_simp) <;> with_reducible rfl)
    refine wpAnyH_take (i := 5) (oi := _) (v := ?_) rfl (by kernel_rfl) (by kernel_rfl) (by kernel_rfl) (fun _ _ _ h => h) (Or.inl ⟨by rfl, ?_⟩) (by assumption) ?_
    rotate_left
    · ((intro w hSw; (try dsimp only at hSw); go_simp) <;> with_reducible rfl)
    refine wpAnyH_take (i := 6) (oi := _) (v := ?_) rfl (by kernel_rfl) (by kernel_rfl) (by kernel_rfl) (fun _ _ _ h => h) (Or.inl ⟨by rfl, ?_⟩) (by assumption) ?_
    rotate_left
    · ((intro w hSw; (try dsimp only at hSw); go_simp) <;> with_reducible rfl)
    refine wpAnyH_take (i := 7) (oi := _) (v := ?_) rfl (by kernel_rfl) (by kernel_rfl) (by kernel_rfl) (fun _ _ _ h => h) (Or.inl ⟨by rfl, ?_⟩) (by assumption) ?_
    rotate_left
    · ((intro w hSw; (try dsimp only at hSw); go_simp) <;> with_reducible rfl)
    refine wpAnyH_take (i := 8) (oi := _) (v := ?_) rfl (by kernel_rfl) (by kernel_rfl) (by kernel_rfl) (fun _ _ _ h => h) (Or.inl ⟨by rfl, ?_⟩) (by assumption) ?_
    rotate_left
    · ((intro w hSw; (try dsimp only at hSw); go_simp) <;> with_reducible rfl)
    refine wpAnyH_take (i := 9) (oi := _) (v := ?_) rfl (by kernel_rfl) (by kernel_rfl) (by kernel_rfl) (fun _ _ _ h => h) (Or.inl ⟨by rfl, ?_⟩) (by assumption) ?_
    rotate_left
    · ((intro w hSw; (try dsimp only at hSw); go_simp) <;> with_reducible rfl)
    refine wpAnyH_take (i := 10) (oi := _) (v := ?_) rfl (by kernel_rfl) (by kernel_rfl) (by kernel_rfl) (fun _ _ _ h => h) (Or.inl ⟨by rfl, ?_⟩) (by assumption) ?_
    rotate_left
    · ((intro w hSw; (try dsimp only at hSw); go_simp) <;> with_reducible rfl)
    refine wpAnyH_take (i := 11) (oi := _) (v := ?_) rfl (by kernel_rfl) (by kernel_rfl) (by kernel_rfl) (fun _ _ _ h => h) (Or.inl ⟨by rfl, ?_⟩) (by assumption) ?_
    rotate_left
    · ((intro w hSw; (try dsimp only at hSw); go_simp) <;> with_reducible rfl)
    refine wpAnyH_take (i := 12) (oi := _) (v := ?_) rfl (by kernel_rfl) (by kernel_rfl) (by kernel_rfl) (fun _ _ _ h => h) (Or.inl ⟨by rfl, ?_⟩) (by assumption) ?_
    rotate_left
    · ((intro w hSw; (try dsimp only at hSw); go_simp) <;> with_reducible rfl)
    refine wpAnyH_take (i := 13) (oi := _) (v := ?_) rfl (by kernel_rfl) (by kernel_rfl) (by kernel_rfl) (fun _ _ _ h => h) (Or.inl ⟨by rfl, ?_⟩) (by assumption) ?_
    rotate_left
    · ((intro w hSw; (try dsimp only at hSw); go_simp) <;> with_reducible rfl)
    refine wpAnyH_take (i := 14) (oi := _) (v := ?_) rfl (by kernel_rfl) (by kernel_rfl) (by kernel_rfl) (fun _ _ _ h => h) (Or.inl ⟨by rfl, ?_⟩) (by assumption) ?_
    rotate_left
    · ((intro w hSw; (try dsimp only at hSw); go_simp) <;> with_reducible rfl)
    refine wpAnyH_take (i := 15) (oi := _) (v := ?_) rfl (by kernel_rfl) (by kernel_rfl) (by kernel_rfl) (fun _ _ _ h => h) (Or.inl ⟨by rfl, ?_⟩) (by assumption) ?_
    rotate_left
    · ((intro w hSw; (try dsimp only at hSw); go_simp) <;> with_reducible rfl)
    refine wpAnyH_take (i := 16) (oi := _) (v := ?_) rfl (by kernel_rfl) (by kernel_rfl) (by kernel_rfl) (fun _ _ _ h => h) (Or.inl ⟨by rfl, ?_⟩) (by assumption) ?_
    rotate_left
    · ((intro w hSw; (try dsimp only at hSw); go_simp) <;> with_reducible rfl)
    refine wpAnyH_take (i := 17) (oi := _) (v := ?_) rfl (by kernel_rfl) (by kernel_rfl) (by kernel_rfl) (fun _ _ _ h => h) (Or.inl ⟨by rfl, ?_⟩) (by assumption) ?_
    rotate_left
    · ((intro w hSw; (try dsimp only at hSw); go_simp) <;> with_reducible rfl)
    refine wpAnyH_take (i := 18) (oi := _) (v := ?_) rfl (by kernel_rfl) (by kernel_rfl) (by kernel_rfl) (fun _ _ _ h => h) (Or.inl ⟨by rfl, ?_⟩) (by assumption) ?_
    rotate_left
    · ((intro w hSw; (try dsimp only at hSw); go_simp) <;> with_reducible rfl)
    refine wpAnyH_take (i := 19) (oi := _) (v := ?_) rfl (by kernel_rfl) (by kernel_rfl) (by kernel_rfl) (fun _ _ _ h => h) (Or.inl ⟨by rfl, ?_⟩) (by assumption) ?_
    rotate_left
    · ((intro w hSw; (try dsimp only at hSw); go_simp) <;> with_reducible rfl)
    refine wpAnyH_take (i := 20) (oi := _) (v := ?_) rfl (by kernel_rfl) (by kernel_rfl) (by kernel_rfl) (fun _ _ _ h => h) (Or.inl ⟨by rfl, ?_⟩) (by assumption) ?_
    rotate_left
    · ((intro w hSw; (try dsimp only at hSw); go_simp) <;> with_reducible rfl)
    refine wpAnyH_ready (rs := [4, 21]) (by kernel_rfl) (by simp) ?_
    refine AllReadyH.cons rfl (fun K hK => ?_) ?_
    · go_simp
      refine hK.out _ _ ?_ (fun hHeld => ?_)
      · ((try dsimp only); (first | exact ⟨y0, y1⟩ | exact ⟨y0b, y1b⟩ | exact ⟨e0, e1⟩ | exact ⟨(hL6.setN _).cells.1, (hL6.setN _).cells.2.1⟩))
      clear hK K
      refine wpAnyH_ready (rs := [21]) (by kernel_rfl) (by simp) ?_
      refine AllReadyH.cons rfl (fun K hK => ?_) ?_
      · go_simp
        refine hK.out _ _ ?_ (fun hHeld => ?_)
        · ((try dsimp only); (first | exact ⟨y0, y1⟩ | exact ⟨y0b, y1b⟩ | exact ⟨e0, e1⟩ | exact ⟨(hL6.setN _).cells.1, (hL6.setN _).cells.2.1⟩))
        clear hK K
        refine wpAnyH_ready (rs := [22]) (by kernel_rfl) (by simp) ?_
        refine AllReadyH.cons rfl (fun K hK => ?_) ?_
        · ((refine step_push_row rfl (.tmp 91) (.tmp 108) 24 rfl 36 _ 3 32 noteRowE (g + 1) nv N.length (N.flatMap noteCells) wc.heap.size 1 [.int .i64 (i : Int), .int .i64 (q : Int), .string (s.extract i q)] ?_ ?_ ?_ ?_ ?_ ?_ ?_ ?_ ?_ ?_ ?_); exact rfl; exact rfl; exact OwnR.keep hON5 (((Below.refl _ wc).alloc (Nat.le_refl _) _).drew); exact rfl; exact new_cells wc _ _; (intro u hu; simp only [List.mem_cons, List.not_mem_nil, or_false] at hu; rcases hu with rfl | rfl | rfl <;> rfl); exact (fun h => by cases h); omega; omega; (have h9 : g < wc.heap.size := hlt5; show _ ≤ (wc.drew.alloc _).heap.size; simp only [World.size_alloc]; show _ ≤ wc.heap.size + 1; omega); intro v' w16 hown6 hgr6 hb6; obtain ⟨ao6, n6, cap6, rfl⟩ := own_slc hown6; have hL6 : LxB w16 g s q tv nv 0 a := (by first | exact Blk.below (Blk.alloc (w := wc.drew) hL3 _) hb6 (Nat.lt_succ_self g) | exact Blk.below (Blk.alloc hL3 _) hb6 (Nat.lt_succ_self g)); have hB6 : Below g w w16 := (by first | exact (hU3.1.drew.alloc (Nat.le_of_lt hlt5) _).trans (hb6.mono (Nat.le_succ g)) | exact (hU3.1.alloc (Nat.le_of_lt hlt5) _).drew.trans (hb6.mono (Nat.le_succ g))); have hOT6 : OwnRT w16 (g + 1) tv T := (by first | exact ownsRow_grown (OwnR.keep hOT5 (((Below.refl _ wc).drew).alloc (Nat.le_refl _) _)) (OwnR.keep hON5 (((Below.refl _ wc).drew).alloc (Nat.le_refl _) _)) (by decide) hgr6 | exact ownsRow_grown (OwnR.keep hOT5 (((Below.refl _ wc).alloc (Nat.le_refl _) _).drew)) (OwnR.keep hON5 (((Below.refl _ wc).alloc (Nat.le_refl _) _).drew)) (by decide) hgr6); obtain ⟨e0, e1, -, e3, -, -⟩ := hL6.cells; have e7 := hL6.free 3; clear hgr6 hb6)
          refine hK.out _ _ ?_ (fun hHeld => ?_)
          · ((try dsimp only); (first | exact ⟨y0, y1⟩ | exact ⟨y0b, y1b⟩ | exact ⟨e0, e1⟩ | exact ⟨(hL6.setN _).cells.1, (hL6.setN _).cells.2.1⟩))
          clear hK K
          refine wpAnyH_take (i := 23) (oi := _) (v := ?_) rfl (by kernel_rfl) (by kernel_rfl) (by kernel_rfl) (fun _ _ _ h => h) (Or.inl ⟨by rfl, ?_⟩) (by assumption) ?_
          rotate_left
          · ((intro w hSw; (try dsimp only at hSw); go_simp) <;> with_reducible rfl)
          refine wpAnyH_take (i := 24) (oi := _) (v := ?_) rfl (by kernel_rfl) (by kernel_rfl) (by kernel_rfl) (fun _ _ _ h => h) (Or.inl ⟨by rfl, ?_⟩) (by assumption) ?_
          rotate_left
          · ((intro w hSw; (try dsimp only at hSw); go_simp) <;> with_reducible rfl)
          refine wpAnyH_ready (rs := [25]) (by kernel_rfl) (by simp) ?_
          refine AllReadyH.cons rfl (fun K hK => ?_) ?_
          · go_simp
            refine hK.out _ _ ?_ (fun hHeld => ?_)
            · ((try dsimp only); (first | exact ⟨y0, y1⟩ | exact ⟨y0b, y1b⟩ | exact ⟨e0, e1⟩ | exact ⟨(hL6.setN _).cells.1, (hL6.setN _).cells.2.1⟩))
            clear hK K
            refine wpAnyH_done (by kernel_rfl) ?_ _
            go_wp2
            refine bodyPost_end (results_none rfl _ _ _) rfl ?_
            have hVo := HVm.out
            subst hVo
            refine ⟨rfl, ?_, hB6.setCell (Nat.le_refl _) _⟩
            show LxOk _ g s (i + (q - i)) T (N ++ [⟨i, i + (q - i), (s.data.toList.drop i).take (q - i)⟩]) a
            rw [show i + (q - i) = q by omega, ← sub_list]
            exact ⟨tv, _, hL6.setN _, own_set hOT6 _ _ (Nat.lt_succ_self g), own_set (OwnNote.snoc (t := ⟨i, q, (s.extract i q).data.toList⟩) hown6) _ _ (Nat.lt_succ_self g)⟩
          exact AllReadyH.nil
        exact AllReadyH.nil
      exact AllReadyH.nil
    refine AllReadyH.cons rfl (fun K hK => ?_) ?_
    · go_simp
      refine hK.out _ _ ?_ (fun hHeld => ?_)
      · ((try dsimp only); (first | exact ⟨y0, y1⟩ | exact ⟨y0b, y1b⟩ | exact ⟨e0, e1⟩ | exact ⟨(hL6.setN _).cells.1, (hL6.setN _).cells.2.1⟩))
      clear hK K
      refine wpAnyH_ready (rs := [4]) (by kernel_rfl) (by simp) ?_
      refine AllReadyH.cons rfl (fun K hK => ?_) ?_
      · go_simp
        refine hK.out _ _ ?_ (fun hHeld => ?_)
        · ((try dsimp only); (first | exact ⟨y0, y1⟩ | exact ⟨y0b, y1b⟩ | exact ⟨e0, e1⟩ | exact ⟨(hL6.setN _).cells.1, (hL6.setN _).cells.2.1⟩))
        clear hK K
        refine wpAnyH_ready (rs := [22]) (by kernel_rfl) (by simp) ?_
        refine AllReadyH.cons rfl (fun K hK => ?_) ?_
        · ((refine step_push_row rfl (.tmp 91) (.tmp 108) 24 rfl 36 _ 3 32 noteRowE (g + 1) nv N.length (N.flatMap noteCells) wc.heap.size 1 [.int .i64 (i : Int), .int .i64 (q : Int), .string (s.extract i q)] ?_ ?_ ?_ ?_ ?_ ?_ ?_ ?_ ?_ ?_ ?_); exact rfl; exact rfl; exact OwnR.keep hON5 (((Below.refl _ wc).alloc (Nat.le_refl _) _).drew); exact rfl; exact new_cells wc _ _; (intro u hu; simp only [List.mem_cons, List.not_mem_nil, or_false] at hu; rcases hu with rfl | rfl | rfl <;> rfl); exact (fun h => by cases h); omega; omega; (have h9 : g < wc.heap.size := hlt5; show _ ≤ (wc.drew.alloc _).heap.size; simp only [World.size_alloc]; show _ ≤ wc.heap.size + 1; omega); intro v' w16 hown6 hgr6 hb6; obtain ⟨ao6, n6, cap6, rfl⟩ := own_slc hown6; have hL6 : LxB w16 g s q tv nv 0 a := (by first | exact Blk.below (Blk.alloc (w := wc.drew) hL3 _) hb6 (Nat.lt_succ_self g) | exact Blk.below (Blk.alloc hL3 _) hb6 (Nat.lt_succ_self g)); have hB6 : Below g w w16 := (by first | exact (hU3.1.drew.alloc (Nat.le_of_lt hlt5) _).trans (hb6.mono (Nat.le_succ g)) | exact (hU3.1.alloc (Nat.le_of_lt hlt5) _).drew.trans (hb6.mono (Nat.le_succ g))); have hOT6 : OwnRT w16 (g + 1) tv T := (by first | exact ownsRow_grown (OwnR.keep hOT5 (((Below.refl _ wc).drew).alloc (Nat.le_refl _) _)) (OwnR.keep hON5 (((Below.refl _ wc).drew).alloc (Nat.le_refl _) _)) (by decide) hgr6 | exact ownsRow_grown (OwnR.keep hOT5 (((Below.refl _ wc).alloc (Nat.le_refl _) _).drew)) (OwnR.keep hON5 (((Below.refl _ wc).alloc (Nat.le_refl _) _).drew)) (by decide) hgr6); obtain ⟨e0, e1, -, e3, -, -⟩ := hL6.cells; have e7 := hL6.free 3; clear hgr6 hb6)
          refine hK.out _ _ ?_ (fun hHeld => ?_)
          · ((try dsimp only); (first | exact ⟨y0, y1⟩ | exact ⟨y0b, y1b⟩ | exact ⟨e0, e1⟩ | exact ⟨(hL6.setN _).cells.1, (hL6.setN _).cells.2.1⟩))
          clear hK K
          refine wpAnyH_take (i := 23) (oi := _) (v := ?_) rfl (by kernel_rfl) (by kernel_rfl) (by kernel_rfl) (fun _ _ _ h => h) (Or.inl ⟨by rfl, ?_⟩) (by assumption) ?_
          rotate_left
          · ((intro w hSw; (try dsimp only at hSw); go_simp) <;> with_reducible rfl)
          refine wpAnyH_take (i := 24) (oi := _) (v := ?_) rfl (by kernel_rfl) (by kernel_rfl) (by kernel_rfl) (fun _ _ _ h => h) (Or.inl ⟨by rfl, ?_⟩) (by assumption) ?_
          rotate_left
          · ((intro w hSw; (try dsimp only at hSw); go_simp) <;> with_reducible rfl)
          refine wpAnyH_ready (rs := [25]) (by kernel_rfl) (by simp) ?_
          refine AllReadyH.cons rfl (fun K hK => ?_) ?_
          · go_simp
            refine hK.out _ _ ?_ (fun hHeld => ?_)
            · ((try dsimp only); (first | exact ⟨y0, y1⟩ | exact ⟨y0b, y1b⟩ | exact ⟨e0, e1⟩ | exact ⟨(hL6.setN _).cells.1, (hL6.setN _).cells.2.1⟩))
            clear hK K
            refine wpAnyH_done (by kernel_rfl) ?_ _
            go_wp2
            refine bodyPost_end (results_none rfl _ _ _) rfl ?_
            have hVo := HVm.out
            subst hVo
            refine ⟨rfl, ?_, hB6.setCell (Nat.le_refl _) _⟩
            show LxOk _ g s (i + (q - i)) T (N ++ [⟨i, i + (q - i), (s.data.toList.drop i).take (q - i)⟩]) a
            rw [show i + (q - i) = q by omega, ← sub_list]
            exact ⟨tv, _, hL6.setN _, own_set hOT6 _ _ (Nat.lt_succ_self g), own_set (OwnNote.snoc (t := ⟨i, q, (s.extract i q).data.toList⟩) hown6) _ _ (Nat.lt_succ_self g)⟩
          exact AllReadyH.nil
        exact AllReadyH.nil
      exact AllReadyH.nil
    exact AllReadyH.nil
end Go.Proofs.YtjfkiomegacpeaaDoor
