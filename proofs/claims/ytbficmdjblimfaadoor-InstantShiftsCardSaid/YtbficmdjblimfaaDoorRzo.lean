/-
  The reference's reader of a zone by its contract. Laid by wip/gen/rrd.py.
-/
import Derived.Test.YtbficmdjblimfaaDoorRcl
namespace Go.Proofs.YtbficmdjblimfaaDoor
open Go.RowKit
def offZ (z : UInt8) (zh zm : Nat) : Int := if z = 45 then -((3600 * zh + 60 * zm : Nat) : Int) else ((3600 * zh + 60 * zm : Nat) : Int)
def lateZ (zh zm : Nat) : Bool := decide (23 < zh) || decide (59 < zm)
def zR (c : UInt8) (o1 o2 : Option Nat) (b58 : Bool) (b : Nat) : Option (UInt8 × Nat × Nat × Nat) := match o1, o2 with
  | some h, some m => if b58 then some (c, h, m, b + 6) else none
  | _, _ => none
theorem at_size {s : ByteArray} {p : Nat} {c : UInt8} (h : Ins.isAt s.data.toList p c = true) : ∃ h : p < s.size, s[p] = c := by
  unfold Ins.isAt at h
  rw [beq_iff_eq] at h
  obtain ⟨h1, h2⟩ := List.getElem?_eq_some_iff.1 h
  rw [size_toList] at h1
  exact ⟨h1, h2⟩
set_option maxRecDepth 100000 in
set_option maxHeartbeats 8000000 in
theorem rzone_any (s : ByteArray) (b : Nat) (y mo d h mi sc ns : Int) (w : World) (hs : s.size ≤ 1000000) (hbs : b ≤ 1000000) :
    Calls Tryd.prog 32 #[.string s, .int .i64 (b : Int), .agg (tC true true false y mo d h mi sc ns 0 false)] w (RetT w ((Ins.zoneAt s.data.toList b).map fun p => (tC true true true y mo d h mi sc ns (offZ p.1 p.2.1 p.2.2.1) (lateZ p.2.1 p.2.2.1), p.2.2.2))) := by
  obtain ⟨R, hR⟩ : ∃ R, R = Ins.zoneAt s.data.toList b := ⟨_, rfl⟩
  rw [← hR]
  unfold Ins.zoneAt at hR
  have H1 : Hid (∀ w1, Calls Tryd.prog 42 #[.string s, .int .i64 ((b : Int) + 1), .int .i64 2] w1 fun e w' => e = .returned (.int .i64 (optI (Ins.numAt s.data.toList (b + 1) 2))) ∧ w1 = w') := Lib.hid (fun w1 => rtwo_any s (b + 1) 2 w1 hs (by omega) (by decide) (by decide))
  have H2 : Hid (∀ w1, Calls Tryd.prog 42 #[.string s, .int .i64 ((b : Int) + 4), .int .i64 2] w1 fun e w' => e = .returned (.int .i64 (optI (Ins.numAt s.data.toList (b + 4) 2))) ∧ w1 = w') := Lib.hid (fun w1 => rtwo_any s (b + 4) 2 w1 hs (by omega) (by decide) (by decide))
  have H3 : Hid (∀ w1, Calls Tryd.prog 31 #[.string s, .int .i64 (b : Int), .int .u8 90] w1 fun e w' => e = .returned (.bool (Ins.isAt s.data.toList b 90)) ∧ w1 = w') := Lib.hid (fun w1 => ris_any s b 90 w1 hs (by omega))
  have H4 : Hid (∀ w1, Calls Tryd.prog 31 #[.string s, .int .i64 (b : Int), .int .u8 43] w1 fun e w' => e = .returned (.bool (Ins.isAt s.data.toList b 43)) ∧ w1 = w') := Lib.hid (fun w1 => ris_any s b 43 w1 hs (by omega))
  have H5 : Hid (∀ w1, Calls Tryd.prog 31 #[.string s, .int .i64 (b : Int), .int .u8 45] w1 fun e w' => e = .returned (.bool (Ins.isAt s.data.toList b 45)) ∧ w1 = w') := Lib.hid (fun w1 => ris_any s b 45 w1 hs (by omega))
  have H6 : Hid (∀ w1, Calls Tryd.prog 31 #[.string s, .int .i64 ((b : Int) + 3), .int .u8 58] w1 fun e w' => e = .returned (.bool (Ins.isAt s.data.toList (b + 3) 58)) ∧ w1 = w') := Lib.hid (fun w1 => ris_any s (b + 3) 58 w1 hs (by omega))
  have hb1 : ∀ x, Ins.numAt s.data.toList (b + 1) 2 = some x → x ≤ 99 := fun x h => (Ins.numAt2 h).1
  have hb2 : ∀ x, Ins.numAt s.data.toList (b + 4) 2 = some x → x ≤ 99 := fun x h => (Ins.numAt2 h).1
  generalize Ins.numAt s.data.toList (b + 1) 2 = o1 at *
  generalize Ins.numAt s.data.toList (b + 4) 2 = o2 at *
  generalize Ins.isAt s.data.toList (b + 3) 58 = b58 at *
  generalize Ins.isAt s.data.toList b 90 = b90 at *
  obtain ⟨v1, hv1⟩ : ∃ v, v = optI o1 := ⟨_, rfl⟩
  obtain ⟨v2, hv2⟩ : ∃ v, v = optI o2 := ⟨_, rfl⟩
  rw [← hv1] at H1
  rw [← hv2] at H2
  unfold tC
  cases b90 with
  | true =>
    obtain rfl : R = some (90, 0, 0, b + 1) := hR
    clear hv1 hv2 hb1 hb2
    go_enter Tryd.func32, Tryd.ntmps32
    go_wp2_with (first | (go_at_call 42; with_reducible refine (H1.out _).mono ?_; rintro e w5 ⟨rfl, rfl⟩) | (go_at_call 42; with_reducible refine (H2.out _).mono ?_; rintro e w5 ⟨rfl, rfl⟩) | (go_at_call 31; with_reducible refine (H3.out _).mono ?_; rintro e w5 ⟨rfl, rfl⟩) | (go_at_call 31; with_reducible refine (H4.out _).mono ?_; rintro e w5 ⟨rfl, rfl⟩) | (go_at_call 31; with_reducible refine (H5.out _).mono ?_; rintro e w5 ⟨rfl, rfl⟩) | (go_at_call 31; with_reducible refine (H6.out _).mono ?_; rintro e w5 ⟨rfl, rfl⟩))
    refine ret_T rfl rfl rfl rfl rfl fun hb => ?_
    exact ⟨rfl, hb⟩
  | false =>
    replace hR : R = if Ins.isAt s.data.toList b 43 || Ins.isAt s.data.toList b 45 then
        match o1, o2 with
        | some h, some m => if b58 then some (if Ins.isAt s.data.toList b 43 then (43 : UInt8) else 45, h, m, b + 6) else none
        | _, _ => none
      else none := hR
    cases hsg : Ins.isAt s.data.toList b 43 with
    | true =>
      rw [hsg] at H4 hR
      generalize Ins.isAt s.data.toList b 45 = b45 at *
      replace hR : R = zR 43 o1 o2 b58 b := hR
      obtain ⟨hpl, hsb⟩ := at_size hsg
      have c1 : (s[b].toNat : Int) = 43 := by rw [hsb]; rfl
      clear hsb hsg
      cases o1 with
      | none =>
        have n1 : v1 < 0 := by rw [hv1, optI_none]; decide
        obtain rfl : R = none := hR.trans (by first | rfl | (cases o2 <;> rfl))
        clear hv1 hv2 hR hb1 hb2
        go_enter Tryd.func32, Tryd.ntmps32
        go_wp2_with (first | (go_at_call 42; with_reducible refine (H1.out _).mono ?_; rintro e w5 ⟨rfl, rfl⟩) | (go_at_call 42; with_reducible refine (H2.out _).mono ?_; rintro e w5 ⟨rfl, rfl⟩) | (go_at_call 31; with_reducible refine (H3.out _).mono ?_; rintro e w5 ⟨rfl, rfl⟩) | (go_at_call 31; with_reducible refine (H4.out _).mono ?_; rintro e w5 ⟨rfl, rfl⟩) | (go_at_call 31; with_reducible refine (H5.out _).mono ?_; rintro e w5 ⟨rfl, rfl⟩) | (go_at_call 31; with_reducible refine (H6.out _).mono ?_; rintro e w5 ⟨rfl, rfl⟩))
        refine ret_T rfl rfl rfl rfl rfl fun hb => ?_
        exact ⟨⟨_, _, _, _, _, _, _, _, _, _, _, _, rfl⟩, hb⟩
      | some x1 =>
        replace hv1 : v1 = (x1 : Int) := hv1
        subst hv1
        have q1 := hb1 x1 rfl
        cases o2 with
        | none =>
          have n2 : v2 < 0 := by rw [hv2, optI_none]; decide
          obtain rfl : R = none := hR
          clear hv2 hb1 hb2
          go_enter Tryd.func32, Tryd.ntmps32
          go_wp2_with (first | (go_at_call 42; with_reducible refine (H1.out _).mono ?_; rintro e w5 ⟨rfl, rfl⟩) | (go_at_call 42; with_reducible refine (H2.out _).mono ?_; rintro e w5 ⟨rfl, rfl⟩) | (go_at_call 31; with_reducible refine (H3.out _).mono ?_; rintro e w5 ⟨rfl, rfl⟩) | (go_at_call 31; with_reducible refine (H4.out _).mono ?_; rintro e w5 ⟨rfl, rfl⟩) | (go_at_call 31; with_reducible refine (H5.out _).mono ?_; rintro e w5 ⟨rfl, rfl⟩) | (go_at_call 31; with_reducible refine (H6.out _).mono ?_; rintro e w5 ⟨rfl, rfl⟩))
          refine ret_T rfl rfl rfl rfl rfl fun hb => ?_
          exact ⟨⟨_, _, _, _, _, _, _, _, _, _, _, _, rfl⟩, hb⟩
        | some x2 =>
          replace hv2 : v2 = (x2 : Int) := hv2
          subst hv2
          have q2 := hb2 x2 rfl
          cases b58 with
          | false =>
            obtain rfl : R = none := hR
            clear hb1 hb2
            go_enter Tryd.func32, Tryd.ntmps32
            go_wp2_with (first | (go_at_call 42; with_reducible refine (H1.out _).mono ?_; rintro e w5 ⟨rfl, rfl⟩) | (go_at_call 42; with_reducible refine (H2.out _).mono ?_; rintro e w5 ⟨rfl, rfl⟩) | (go_at_call 31; with_reducible refine (H3.out _).mono ?_; rintro e w5 ⟨rfl, rfl⟩) | (go_at_call 31; with_reducible refine (H4.out _).mono ?_; rintro e w5 ⟨rfl, rfl⟩) | (go_at_call 31; with_reducible refine (H5.out _).mono ?_; rintro e w5 ⟨rfl, rfl⟩) | (go_at_call 31; with_reducible refine (H6.out _).mono ?_; rintro e w5 ⟨rfl, rfl⟩))
            refine ret_T rfl rfl rfl rfl rfl fun hb => ?_
            exact ⟨⟨_, _, _, _, _, _, _, _, _, _, _, _, rfl⟩, hb⟩
          | true =>
            obtain rfl : R = some (43, x1, x2, b + 6) := hR
            clear hb1 hb2
            have HO : Hid (offZ 43 x1 x2 = (3600 * (x1 : Int) + 60 * (x2 : Int))) := Lib.hid (by unfold offZ; rw [if_neg (by decide)]; omega)
            have n1 : ¬ (x1 : Int) < 0 := by omega
            have n2 : ¬ (x2 : Int) < 0 := by omega
            by_cases l1 : 23 < (x1 : Int)
            · have HT : Hid (lateZ x1 x2 = true) := Lib.hid (by unfold lateZ; rw [decide_eq_true (by omega)]; rfl)
              go_enter Tryd.func32, Tryd.ntmps32
              go_wp2_with (first | (go_at_call 42; with_reducible refine (H1.out _).mono ?_; rintro e w5 ⟨rfl, rfl⟩) | (go_at_call 42; with_reducible refine (H2.out _).mono ?_; rintro e w5 ⟨rfl, rfl⟩) | (go_at_call 31; with_reducible refine (H3.out _).mono ?_; rintro e w5 ⟨rfl, rfl⟩) | (go_at_call 31; with_reducible refine (H4.out _).mono ?_; rintro e w5 ⟨rfl, rfl⟩) | (go_at_call 31; with_reducible refine (H5.out _).mono ?_; rintro e w5 ⟨rfl, rfl⟩) | (go_at_call 31; with_reducible refine (H6.out _).mono ?_; rintro e w5 ⟨rfl, rfl⟩))
              refine ret_T rfl rfl rfl rfl rfl fun hb => ?_
              show RetT w (some (tC true true true y mo d h mi sc ns (offZ 43 x1 x2) (lateZ x1 x2), b + 6)) _ _
              rw [HO.out, HT.out]
              exact ⟨rfl, hb⟩
            · by_cases l2 : 59 < (x2 : Int)
              · have HT : Hid (lateZ x1 x2 = true) := Lib.hid (by unfold lateZ; rw [decide_eq_true (show 59 < x2 by omega), Bool.or_true])
                go_enter Tryd.func32, Tryd.ntmps32
                go_wp2_with (first | (go_at_call 42; with_reducible refine (H1.out _).mono ?_; rintro e w5 ⟨rfl, rfl⟩) | (go_at_call 42; with_reducible refine (H2.out _).mono ?_; rintro e w5 ⟨rfl, rfl⟩) | (go_at_call 31; with_reducible refine (H3.out _).mono ?_; rintro e w5 ⟨rfl, rfl⟩) | (go_at_call 31; with_reducible refine (H4.out _).mono ?_; rintro e w5 ⟨rfl, rfl⟩) | (go_at_call 31; with_reducible refine (H5.out _).mono ?_; rintro e w5 ⟨rfl, rfl⟩) | (go_at_call 31; with_reducible refine (H6.out _).mono ?_; rintro e w5 ⟨rfl, rfl⟩))
                refine ret_T rfl rfl rfl rfl rfl fun hb => ?_
                show RetT w (some (tC true true true y mo d h mi sc ns (offZ 43 x1 x2) (lateZ x1 x2), b + 6)) _ _
                rw [HO.out, HT.out]
                exact ⟨rfl, hb⟩
              · have HT : Hid (lateZ x1 x2 = false) := Lib.hid (by unfold lateZ; rw [decide_eq_false (by omega), decide_eq_false (by omega)]; rfl)
                go_enter Tryd.func32, Tryd.ntmps32
                go_wp2_with (first | (go_at_call 42; with_reducible refine (H1.out _).mono ?_; rintro e w5 ⟨rfl, rfl⟩) | (go_at_call 42; with_reducible refine (H2.out _).mono ?_; rintro e w5 ⟨rfl, rfl⟩) | (go_at_call 31; with_reducible refine (H3.out _).mono ?_; rintro e w5 ⟨rfl, rfl⟩) | (go_at_call 31; with_reducible refine (H4.out _).mono ?_; rintro e w5 ⟨rfl, rfl⟩) | (go_at_call 31; with_reducible refine (H5.out _).mono ?_; rintro e w5 ⟨rfl, rfl⟩) | (go_at_call 31; with_reducible refine (H6.out _).mono ?_; rintro e w5 ⟨rfl, rfl⟩))
                refine ret_T rfl rfl rfl rfl rfl fun hb => ?_
                show RetT w (some (tC true true true y mo d h mi sc ns (offZ 43 x1 x2) (lateZ x1 x2), b + 6)) _ _
                rw [HO.out, HT.out]
                simp only [show decide (23 < (x1 : Int)) = false from decide_eq_false (by omega), show decide (59 < (x2 : Int)) = false from decide_eq_false (by omega), Bool.or_false] at hb ⊢
                exact ⟨rfl, hb⟩
    | false =>
      rw [hsg] at H4 hR
      clear hsg
      cases hsg : Ins.isAt s.data.toList b 45 with
      | true =>
        rw [hsg] at H5 hR
        replace hR : R = zR 45 o1 o2 b58 b := hR
        obtain ⟨hpl, hsb⟩ := at_size hsg
        have c1 : (s[b].toNat : Int) = 45 := by rw [hsb]; rfl
        clear hsb hsg
        cases o1 with
        | none =>
          have n1 : v1 < 0 := by rw [hv1, optI_none]; decide
          obtain rfl : R = none := hR.trans (by first | rfl | (cases o2 <;> rfl))
          clear hv1 hv2 hR hb1 hb2
          go_enter Tryd.func32, Tryd.ntmps32
          go_wp2_with (first | (go_at_call 42; with_reducible refine (H1.out _).mono ?_; rintro e w5 ⟨rfl, rfl⟩) | (go_at_call 42; with_reducible refine (H2.out _).mono ?_; rintro e w5 ⟨rfl, rfl⟩) | (go_at_call 31; with_reducible refine (H3.out _).mono ?_; rintro e w5 ⟨rfl, rfl⟩) | (go_at_call 31; with_reducible refine (H4.out _).mono ?_; rintro e w5 ⟨rfl, rfl⟩) | (go_at_call 31; with_reducible refine (H5.out _).mono ?_; rintro e w5 ⟨rfl, rfl⟩) | (go_at_call 31; with_reducible refine (H6.out _).mono ?_; rintro e w5 ⟨rfl, rfl⟩))
          refine ret_T rfl rfl rfl rfl rfl fun hb => ?_
          exact ⟨⟨_, _, _, _, _, _, _, _, _, _, _, _, rfl⟩, hb⟩
        | some x1 =>
          replace hv1 : v1 = (x1 : Int) := hv1
          subst hv1
          have q1 := hb1 x1 rfl
          cases o2 with
          | none =>
            have n2 : v2 < 0 := by rw [hv2, optI_none]; decide
            obtain rfl : R = none := hR
            clear hv2 hb1 hb2
            go_enter Tryd.func32, Tryd.ntmps32
            go_wp2_with (first | (go_at_call 42; with_reducible refine (H1.out _).mono ?_; rintro e w5 ⟨rfl, rfl⟩) | (go_at_call 42; with_reducible refine (H2.out _).mono ?_; rintro e w5 ⟨rfl, rfl⟩) | (go_at_call 31; with_reducible refine (H3.out _).mono ?_; rintro e w5 ⟨rfl, rfl⟩) | (go_at_call 31; with_reducible refine (H4.out _).mono ?_; rintro e w5 ⟨rfl, rfl⟩) | (go_at_call 31; with_reducible refine (H5.out _).mono ?_; rintro e w5 ⟨rfl, rfl⟩) | (go_at_call 31; with_reducible refine (H6.out _).mono ?_; rintro e w5 ⟨rfl, rfl⟩))
            refine ret_T rfl rfl rfl rfl rfl fun hb => ?_
            exact ⟨⟨_, _, _, _, _, _, _, _, _, _, _, _, rfl⟩, hb⟩
          | some x2 =>
            replace hv2 : v2 = (x2 : Int) := hv2
            subst hv2
            have q2 := hb2 x2 rfl
            cases b58 with
            | false =>
              obtain rfl : R = none := hR
              clear hb1 hb2
              go_enter Tryd.func32, Tryd.ntmps32
              go_wp2_with (first | (go_at_call 42; with_reducible refine (H1.out _).mono ?_; rintro e w5 ⟨rfl, rfl⟩) | (go_at_call 42; with_reducible refine (H2.out _).mono ?_; rintro e w5 ⟨rfl, rfl⟩) | (go_at_call 31; with_reducible refine (H3.out _).mono ?_; rintro e w5 ⟨rfl, rfl⟩) | (go_at_call 31; with_reducible refine (H4.out _).mono ?_; rintro e w5 ⟨rfl, rfl⟩) | (go_at_call 31; with_reducible refine (H5.out _).mono ?_; rintro e w5 ⟨rfl, rfl⟩) | (go_at_call 31; with_reducible refine (H6.out _).mono ?_; rintro e w5 ⟨rfl, rfl⟩))
              refine ret_T rfl rfl rfl rfl rfl fun hb => ?_
              exact ⟨⟨_, _, _, _, _, _, _, _, _, _, _, _, rfl⟩, hb⟩
            | true =>
              obtain rfl : R = some (45, x1, x2, b + 6) := hR
              clear hb1 hb2
              have HO : Hid (offZ 45 x1 x2 = -(3600 * (x1 : Int) + 60 * (x2 : Int))) := Lib.hid (by unfold offZ; rw [if_pos rfl]; omega)
              have n1 : ¬ (x1 : Int) < 0 := by omega
              have n2 : ¬ (x2 : Int) < 0 := by omega
              by_cases l1 : 23 < (x1 : Int)
              · have HT : Hid (lateZ x1 x2 = true) := Lib.hid (by unfold lateZ; rw [decide_eq_true (by omega)]; rfl)
                go_enter Tryd.func32, Tryd.ntmps32
                go_wp2_with (first | (go_at_call 42; with_reducible refine (H1.out _).mono ?_; rintro e w5 ⟨rfl, rfl⟩) | (go_at_call 42; with_reducible refine (H2.out _).mono ?_; rintro e w5 ⟨rfl, rfl⟩) | (go_at_call 31; with_reducible refine (H3.out _).mono ?_; rintro e w5 ⟨rfl, rfl⟩) | (go_at_call 31; with_reducible refine (H4.out _).mono ?_; rintro e w5 ⟨rfl, rfl⟩) | (go_at_call 31; with_reducible refine (H5.out _).mono ?_; rintro e w5 ⟨rfl, rfl⟩) | (go_at_call 31; with_reducible refine (H6.out _).mono ?_; rintro e w5 ⟨rfl, rfl⟩))
                refine ret_T rfl rfl rfl rfl rfl fun hb => ?_
                show RetT w (some (tC true true true y mo d h mi sc ns (offZ 45 x1 x2) (lateZ x1 x2), b + 6)) _ _
                rw [HO.out, HT.out]
                exact ⟨rfl, hb⟩
              · by_cases l2 : 59 < (x2 : Int)
                · have HT : Hid (lateZ x1 x2 = true) := Lib.hid (by unfold lateZ; rw [decide_eq_true (show 59 < x2 by omega), Bool.or_true])
                  go_enter Tryd.func32, Tryd.ntmps32
                  go_wp2_with (first | (go_at_call 42; with_reducible refine (H1.out _).mono ?_; rintro e w5 ⟨rfl, rfl⟩) | (go_at_call 42; with_reducible refine (H2.out _).mono ?_; rintro e w5 ⟨rfl, rfl⟩) | (go_at_call 31; with_reducible refine (H3.out _).mono ?_; rintro e w5 ⟨rfl, rfl⟩) | (go_at_call 31; with_reducible refine (H4.out _).mono ?_; rintro e w5 ⟨rfl, rfl⟩) | (go_at_call 31; with_reducible refine (H5.out _).mono ?_; rintro e w5 ⟨rfl, rfl⟩) | (go_at_call 31; with_reducible refine (H6.out _).mono ?_; rintro e w5 ⟨rfl, rfl⟩))
                  refine ret_T rfl rfl rfl rfl rfl fun hb => ?_
                  show RetT w (some (tC true true true y mo d h mi sc ns (offZ 45 x1 x2) (lateZ x1 x2), b + 6)) _ _
                  rw [HO.out, HT.out]
                  exact ⟨rfl, hb⟩
                · have HT : Hid (lateZ x1 x2 = false) := Lib.hid (by unfold lateZ; rw [decide_eq_false (by omega), decide_eq_false (by omega)]; rfl)
                  go_enter Tryd.func32, Tryd.ntmps32
                  go_wp2_with (first | (go_at_call 42; with_reducible refine (H1.out _).mono ?_; rintro e w5 ⟨rfl, rfl⟩) | (go_at_call 42; with_reducible refine (H2.out _).mono ?_; rintro e w5 ⟨rfl, rfl⟩) | (go_at_call 31; with_reducible refine (H3.out _).mono ?_; rintro e w5 ⟨rfl, rfl⟩) | (go_at_call 31; with_reducible refine (H4.out _).mono ?_; rintro e w5 ⟨rfl, rfl⟩) | (go_at_call 31; with_reducible refine (H5.out _).mono ?_; rintro e w5 ⟨rfl, rfl⟩) | (go_at_call 31; with_reducible refine (H6.out _).mono ?_; rintro e w5 ⟨rfl, rfl⟩))
                  refine ret_T rfl rfl rfl rfl rfl fun hb => ?_
                  show RetT w (some (tC true true true y mo d h mi sc ns (offZ 45 x1 x2) (lateZ x1 x2), b + 6)) _ _
                  rw [HO.out, HT.out]
                  simp only [show decide (23 < (x1 : Int)) = false from decide_eq_false (by omega), show decide (59 < (x2 : Int)) = false from decide_eq_false (by omega), Bool.or_false] at hb ⊢
                  exact ⟨rfl, hb⟩
      | false =>
        rw [hsg] at H5 hR
        obtain rfl : R = none := hR
        clear hsg hv1 hv2 hb1 hb2
        go_enter Tryd.func32, Tryd.ntmps32
        go_wp2_with (first | (go_at_call 42; with_reducible refine (H1.out _).mono ?_; rintro e w5 ⟨rfl, rfl⟩) | (go_at_call 42; with_reducible refine (H2.out _).mono ?_; rintro e w5 ⟨rfl, rfl⟩) | (go_at_call 31; with_reducible refine (H3.out _).mono ?_; rintro e w5 ⟨rfl, rfl⟩) | (go_at_call 31; with_reducible refine (H4.out _).mono ?_; rintro e w5 ⟨rfl, rfl⟩) | (go_at_call 31; with_reducible refine (H5.out _).mono ?_; rintro e w5 ⟨rfl, rfl⟩) | (go_at_call 31; with_reducible refine (H6.out _).mono ?_; rintro e w5 ⟨rfl, rfl⟩))
        refine ret_T rfl rfl rfl rfl rfl fun hb => ?_
        exact ⟨⟨_, _, _, _, _, _, _, _, _, _, _, _, rfl⟩, hb⟩
end Go.Proofs.YtbficmdjblimfaaDoor
