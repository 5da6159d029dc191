/-
  jsonlex.escape by its contract.
-/
import Derived.Test.YtjfkiomegacpeaaDoorJsM
namespace Go.Proofs.YtjfkiomegacpeaaDoor
open Go.RowKit
theorem wrap32_small (x : Nat) (h : x < 2147483648) : IntKind.i32.wrap (x : Int) = x := by
  simp [IntKind.wrap, IntKind.bits, IntKind.signed]; omega
/-- The escape of a surrogate n with what follows it. -/
def surq (n : Nat) : Option Nat → Jsn.Esc
  | none => .bad 11
  | some low => if 56319 < n ∨ low < 56320 ∨ 57343 < low then .bad 11 else .ok (65536 + (n - 55296) * 1024 + (low - 56320)) 12
set_option maxRecDepth 100000 in
set_option maxHeartbeats 4000000 in
theorem jescape_short (s : ByteArray) (w : World) (hs : s.size ≤ 1) (hu : Jsn.unit s.data.toList = none) :
    Calls Tryd.prog 49 #[.string s] w (RetQ w (.bad 4)) := by
  have HU := fun w => unit_any s w (by omega)
  rw [hu] at HU
  have HU : Hid (∀ w : World, Calls Tryd.prog 57 #[.string s] w fun e w' => e = .returned (.int .i64 (-1)) ∧ w = w') := Lib.hid HU
  have h1 : decide (1 < (s.size : Int)) = false := decide_eq_false (by omega)
  clear hu
  go_enter Tryd.func49, Tryd.ntmps49
  go_wp2_with fail
  refine (HU.out _).mono ?_
  rintro e w1 ⟨rfl, rfl⟩
  go_wp2_with fail
  go_quiet (fail)
  go_wp2_with fail
  refine bodyPost_ret (v := .tuple #[.int .i32 0, .int .i64 0, .int .i64 4]) (by simp [results, Tryd.results49, go_sem]) rfl ?_
  exact RetQ.badI rfl (drewN_below (Below.refl _ _) _)
set_option maxRecDepth 100000 in
set_option maxHeartbeats 4000000 in
theorem jescape_none (s : ByteArray) (w : World) (hs : 1 < s.size) (hm : s.size ≤ 140737488351232) (hu : Jsn.unit s.data.toList = none) (h0 : Jsn.meaning s[1] = 0) :
    Calls Tryd.prog 49 #[.string s] w (RetQ w (.bad 4)) := by
  have HU := fun w => unit_any s w (by omega)
  rw [hu] at HU
  have HU : Hid (∀ w : World, Calls Tryd.prog 57 #[.string s] w fun e w' => e = .returned (.int .i64 (-1)) ∧ w = w') := Lib.hid HU
  have h1 : decide (1 < (s.size : Int)) = true := decide_eq_true (by omega)
  have HM := Lib.hid (fun w => meanings_any w)
  have hI := fun w => mean_index s[1] w
  rw [h0] at hI
  generalize arrOf .u8 256 meanF = A at *
  clear hu h0
  go_enter Tryd.func49, Tryd.ntmps49
  go_wp2_with fail
  refine (HU.out _).mono ?_
  rintro e w1 ⟨rfl, rfl⟩
  go_wp2_with fail
  go_region_held_law (fun w' => Below w.heap.size w w') (first | exact (Below.refl _ _) | exact (Below.refl _ _).drew | exact (Below.refl _ _).drew.trans hbw | exact keepW hbw (by assumption))
    (first | (go_at_call 58; refine (HM.out _).mono ?_; rintro e w' ⟨rfl, hbw⟩))
  all_goals
    go_wp2_with fail
    refine bodyPost_ret (v := .tuple #[.int .i32 0, .int .i64 0, .int .i64 4]) (by simp [results, Tryd.results49, go_sem]) rfl ?_
    exact RetQ.badI rfl (by assumption)
set_option maxRecDepth 100000 in
set_option maxHeartbeats 4000000 in
theorem jescape_mean (s : ByteArray) (w : World) (hs : 1 < s.size) (hm : s.size ≤ 140737488351232) (hu : Jsn.unit s.data.toList = none) (x : Nat) (h0 : Jsn.meaning s[1] = x) (hx : 0 < x) (hx2 : x < 128) :
    Calls Tryd.prog 49 #[.string s] w (RetQ w (.ok x 2)) := by
  have HU := fun w => unit_any s w (by omega)
  rw [hu] at HU
  have HU : Hid (∀ w : World, Calls Tryd.prog 57 #[.string s] w fun e w' => e = .returned (.int .i64 (-1)) ∧ w = w') := Lib.hid HU
  have h1 : decide (1 < (s.size : Int)) = true := decide_eq_true (by omega)
  have h3 : decide (0 < (x : Int)) = true := decide_eq_true (by omega)
  have hw32 : IntKind.i32.wrap (x : Int) = x := wrap32_small x (by omega)
  have HM := Lib.hid (fun w => meanings_any w)
  have hI := fun w => mean_index s[1] w
  rw [h0] at hI
  generalize arrOf .u8 256 meanF = A at *
  clear hu h0
  go_enter Tryd.func49, Tryd.ntmps49
  go_wp2_with fail
  refine (HU.out _).mono ?_
  rintro e w1 ⟨rfl, rfl⟩
  go_wp2_with fail
  go_region_held_law (fun w' => Below w.heap.size w w') (first | exact (Below.refl _ _) | exact (Below.refl _ _).drew | exact (Below.refl _ _).drew.trans hbw | exact keepW hbw (by assumption))
    (first | (go_at_call 58; refine (HM.out _).mono ?_; rintro e w' ⟨rfl, hbw⟩))
  all_goals
    go_wp2_with fail
    go_region_held_law (fun w' => Below w.heap.size w w') (first | exact ((Below.refl _ _).drew.trans hbw).drew | exact keepW2 ((Below.refl _ _).drew.trans hbw) hbw2 | exact keepW hbw2 (by assumption))
      (first | (go_at_call 58; refine (HM.out _).mono ?_; rintro e w' ⟨rfl, hbw2⟩))
    all_goals
      go_wp2_with fail
      refine bodyPost_ret (v := .tuple #[.int .i32 (x : Int), .int .i64 2, .int .i64 0]) (by simp [results, Tryd.results49, go_sem]) rfl ?_
      exact RetQ.okI rfl rfl (by assumption)
set_option maxRecDepth 100000 in
set_option maxHeartbeats 4000000 in
theorem jescape_unit (s : ByteArray) (w : World) (hm : s.size ≤ 140737488351232) (n : Nat) (hu : Jsn.unit s.data.toList = some n) (hn : n < 55296 ∨ 57343 < n) (hn2 : n < 65536) :
    Calls Tryd.prog 49 #[.string s] w (RetQ w (.ok n 6)) := by
  have HU := fun w => unit_any s w (by omega)
  rw [hu] at HU
  have HU : Hid (∀ w : World, Calls Tryd.prog 57 #[.string s] w fun e w' => e = .returned (.int .i64 (n : Int)) ∧ w = w') := Lib.hid HU
  have h0 : decide ((n : Int) < 0) = false := decide_eq_false (by omega)
  clear hu
  by_cases h1 : n < 55296
  · have c1 : (n : Int) < 55296 := by omega
    clear hn h1
    go_enter Tryd.func49, Tryd.ntmps49
    go_wp2_with fail
    refine (HU.out _).mono ?_
    rintro e w1 ⟨rfl, rfl⟩
    go_wp2_with fail
    go_quiet (fail)
    go_wp2_with fail
    refine bodyPost_ret (v := .tuple #[.int .i32 (n : Int), .int .i64 6, .int .i64 0]) (by simp [results, Tryd.results49, go_sem]) rfl ?_
    exact RetQ.okI rfl rfl (drewN_below (Below.refl _ _) _)
  · have c1 : ¬ ((n : Int) < 55296) := by omega
    have c2 : 57343 < (n : Int) := by omega
    clear hn h1
    go_enter Tryd.func49, Tryd.ntmps49
    go_wp2_with fail
    refine (HU.out _).mono ?_
    rintro e w1 ⟨rfl, rfl⟩
    go_wp2_with fail
    go_quiet (fail)
    go_wp2_with fail
    refine bodyPost_ret (v := .tuple #[.int .i32 (n : Int), .int .i64 6, .int .i64 0]) (by simp [results, Tryd.results49, go_sem]) rfl ?_
    exact RetQ.okI rfl rfl (drewN_below (Below.refl _ _) _)
set_option maxRecDepth 100000 in
set_option maxHeartbeats 4000000 in
theorem jescape_sur (s : ByteArray) (w : World) (hm : s.size ≤ 140737488351232) (h6 : 6 ≤ s.size) (n : Nat) (hu : Jsn.unit s.data.toList = some n) (hn : 55296 ≤ n) (hn2 : n ≤ 57343) (lo : Option Nat) (hl : lo = Jsn.unit (s.data.toList.drop 6)) (hlo : ∀ x, lo = some x → x < 65536) :
    Calls Tryd.prog 49 #[.string s] w (RetQ w (surq n lo)) := by
  have HU := fun w => unit_any s w (by omega)
  rw [hu] at HU
  have HU : Hid (∀ w : World, Calls Tryd.prog 57 #[.string s] w fun e w' => e = .returned (.int .i64 (n : Int)) ∧ w = w') := Lib.hid HU
  have HV := fun w => unit_any (s.extract 6 s.size) w (by rw [ext_size]; omega)
  rw [Lib.extract_to_end, ← hl] at HV
  have HV := Lib.hid HV
  have h0 : decide ((n : Int) < 0) = false := decide_eq_false (by omega)
  have c1 : ¬ ((n : Int) < 55296) := by omega
  have c2 : ¬ (57343 < (n : Int)) := by omega
  have c3 : (6 : Int) ≤ s.size := by omega
  have hlv : (unitI lo = -1 ∧ lo = none) ∨ ∃ x : Nat, unitI lo = x ∧ lo = some x ∧ x < 65536 := by
    cases lo with
    | none => exact Or.inl ⟨rfl, rfl⟩
    | some x => exact Or.inr ⟨x, rfl, rfl, hlo x rfl⟩
  clear hu hl hlo
  rcases hlv with ⟨hI, rfl⟩ | ⟨x, hI, rfl, hx⟩
  · rw [hI] at HV
    clear hI
    go_enter Tryd.func49, Tryd.ntmps49
    go_wp2_with fail
    refine (HU.out _).mono ?_
    rintro e w1 ⟨rfl, rfl⟩
    go_wp2_with fail
    go_quiet (fail)
    go_wp2_with fail
    refine (HV.out _).mono ?_
    rintro e w1 ⟨rfl, rfl⟩
    go_wp2_with fail
    all_goals
      refine bodyPost_ret (v := .tuple #[.int .i32 0, .int .i64 0, .int .i64 11]) (by simp [results, Tryd.results49, go_sem]) rfl ?_
      exact RetQ.badI rfl (drewN_below (Below.refl _ _) _)
  · rw [hI] at HV
    clear hI
    by_cases hbad : 56319 < n ∨ x < 56320 ∨ 57343 < x
    · rw [show surq n (some x) = .bad 11 from if_pos hbad]
      have hbi : ((56319 < (n : Int) ∨ (x : Int) < 56320) ∨ 57343 < (x : Int)) := by omega
      go_enter Tryd.func49, Tryd.ntmps49
      go_wp2_with fail
      refine (HU.out _).mono ?_
      rintro e w1 ⟨rfl, rfl⟩
      go_wp2_with fail
      go_quiet (fail)
      go_wp2_with fail
      refine (HV.out _).mono ?_
      rintro e w1 ⟨rfl, rfl⟩
      go_wp2_with fail
      all_goals
        refine bodyPost_ret (v := .tuple #[.int .i32 0, .int .i64 0, .int .i64 11]) (by simp [results, Tryd.results49, go_sem]) rfl ?_
        exact RetQ.badI rfl (drewN_below (Below.refl _ _) _)
    · rw [show surq n (some x) = _ from if_neg hbad]
      have d1 : ¬ (56319 < (n : Int)) := by omega
      have d2 : ¬ ((x : Int) < 56320) := by omega
      have d3 : ¬ (57343 < (x : Int)) := by omega
      clear hbad
      go_enter Tryd.func49, Tryd.ntmps49
      go_wp2_with fail
      refine (HU.out _).mono ?_
      rintro e w1 ⟨rfl, rfl⟩
      go_wp2_with fail
      go_quiet (fail)
      go_wp2_with fail
      refine (HV.out _).mono ?_
      rintro e w1 ⟨rfl, rfl⟩
      go_wp2_with fail
      refine bodyPost_ret (v := .tuple #[.int .i32 (65536 + ((n : Int) - 55296) * 1024 + x - 56320), .int .i64 12, .int .i64 0]) (by simp [results, Tryd.results49, go_sem]) rfl ?_
      exact RetQ.okI (by omega) rfl (drewN_below (Below.refl _ _) _)
theorem jescape_any (s : ByteArray) (w : World) (hm : s.size ≤ 140737488351232) :
    Calls Tryd.prog 49 #[.string s] w (RetQ w (Jsn.escape s.data.toList)) := by
  cases hu : Jsn.unit s.data.toList with
  | none =>
    by_cases h1 : s.size ≤ 1
    · have e : Jsn.escape s.data.toList = .bad 4 := by
        have h0 : s.data.toList.getD 1 0 = 0 := by
          rw [List.getD_eq_getElem?_getD, List.getElem?_eq_none (by rw [size_toList]; exact h1)]
          rfl
        unfold Jsn.escape
        rw [hu, h0]
        rfl
      rw [e]
      exact jescape_short s w h1 hu
    · have h0 : s.data.toList.getD 1 0 = s[1] := by
        rw [List.getD_eq_getElem?_getD, List.getElem?_eq_getElem (by rw [size_toList]; omega)]
        rfl
      have e : Jsn.escape s.data.toList = if 0 < Jsn.meaning s[1] then .ok (Jsn.meaning s[1]) 2 else .bad 4 := by
        unfold Jsn.escape
        rw [hu, h0]
      rw [e]
      by_cases hp : 0 < Jsn.meaning s[1]
      · rw [if_pos hp]
        exact jescape_mean s w (by omega) hm hu _ rfl hp (Jsn.meaning_bd s[1]).1
      · rw [if_neg hp]
        exact jescape_none s w (by omega) hm hu (by omega)
  | some n =>
    have hb := Jsn.unit_bd _ n hu
    rw [size_toList] at hb
    by_cases hn : n < 55296 ∨ 57343 < n
    · have e : Jsn.escape s.data.toList = .ok n 6 := by
        unfold Jsn.escape
        rw [hu]
        simp only
        rw [if_pos hn]
      rw [e]
      exact jescape_unit s w hm n hu hn hb.2.2
    · have e : Jsn.escape s.data.toList = surq n (Jsn.unit (s.data.toList.drop 6)) := by
        unfold Jsn.escape
        rw [hu]
        simp only
        rw [if_neg hn]
        cases Jsn.unit (s.data.toList.drop 6) <;> rfl
      rw [e]
      exact jescape_sur s w hm hb.1 n hu (by omega) (by omega) _ rfl (fun x hx => (Jsn.unit_bd _ x hx).2.2)
end Go.Proofs.YtjfkiomegacpeaaDoor
