/-
  Line ends and runs by their contracts.
-/
import Derived.Test.YtdhbljbfjdlcdaaDoorTomA
namespace Go.Proofs.YtdhbljbfjdlcdaaDoor
open Go.RowKit
set_option maxRecDepth 100000 in
set_option maxHeartbeats 4000000 in
theorem run_blank (s : ByteArray) (w : World) (hs : s.size ≤ 140737488351232) :
    Calls Tryd.prog 18 #[.string s, .func (.func 19) #[] #[]] w fun e w' => e = .returned (.int .i64 (Tom.run Tom.blank s.data.toList : Nat)) ∧ w = w' := by
  go_enter Tryd.func18, Tryd.ntmps18
  go_wp2_with fail
  go_loop [5] (fun i => ∃ k : Nat, k ≤ s.size ∧ i = .int .i64 k ∧ Hid (∀ j, j < k → Tom.blank (s.data.toList.getD j 0) = true)) (fun i => s.size - (intOf i).toNat)
  case atStart => exact ⟨0, by omega, rfl, Lib.hid (fun j hj => absurd hj (by omega))⟩
  case round =>
    obtain ⟨k, hk, rfl, hall⟩ := hrel
    by_cases hlt : k < s.size
    · have HB := Lib.hid (fun (w : World) => blank_any s[k] w)
      have hce : s.data.toList.getD k 0 = s[k] := by rw [List.getD_eq_getElem?_getD, List.getElem?_eq_getElem (by rw [size_toList]; exact hlt)]; rfl
      have HC := Lib.hid hce
      clear hce
      cases hb : Tom.blank s[k] with
      | true =>
        rw [hb] at HB
        have HH := Lib.hid hb
        clear hb
        go_wp2_with (go_at_call 19; refine (HB.out _).mono ?_; rintro e w3 ⟨rfl, rfl⟩)
        go_round
        case rel =>
          refine ⟨k + 1, by omega, by go_num, Lib.hid fun j hj => ?_⟩
          by_cases e : j = k
          · subst e; rw [HC.out]; exact HH.out
          · exact hall.out j (by omega)
        case measure => simp [intOf]; omega
      | false =>
        rw [hb] at HB
        have HH := Lib.hid hb
        clear hb
        go_wp2_with (go_at_call 19; refine (HB.out _).mono ?_; rintro e w3 ⟨rfl, rfl⟩)
        go_ret
        exact ⟨congrArg (fun n : Nat => Go.Ending.returned (.int .i64 (n : Int))) (Tom.run_at _ _ k (by rw [size_toList]; exact hk) hall.out (fun _ => by rw [HC.out]; exact HH.out)).symm, rfl⟩
    · have hk8 : k = s.size := by omega
      go_wp2_with fail
      go_ret
      have hr := Tom.run_at _ _ k (by rw [size_toList]; exact hk) hall.out (fun h => absurd (by rwa [size_toList] at h) hlt)
      exact ⟨congrArg (fun n : Nat => Go.Ending.returned (.int .i64 (n : Int))) (hr.trans hk8).symm, rfl⟩
set_option maxRecDepth 100000 in
set_option maxHeartbeats 4000000 in
theorem run_bare (s : ByteArray) (w : World) (hs : s.size ≤ 140737488351232) :
    Calls Tryd.prog 18 #[.string s, .func (.func 40) #[] #[]] w fun e w' => e = .returned (.int .i64 (Tom.run Tom.bare s.data.toList : Nat)) ∧ w = w' := by
  go_enter Tryd.func18, Tryd.ntmps18
  go_wp2_with fail
  go_loop [5] (fun i => ∃ k : Nat, k ≤ s.size ∧ i = .int .i64 k ∧ Hid (∀ j, j < k → Tom.bare (s.data.toList.getD j 0) = true)) (fun i => s.size - (intOf i).toNat)
  case atStart => exact ⟨0, by omega, rfl, Lib.hid (fun j hj => absurd hj (by omega))⟩
  case round =>
    obtain ⟨k, hk, rfl, hall⟩ := hrel
    by_cases hlt : k < s.size
    · have HB := Lib.hid (fun (w : World) => bare_any s[k] w)
      have hce : s.data.toList.getD k 0 = s[k] := by rw [List.getD_eq_getElem?_getD, List.getElem?_eq_getElem (by rw [size_toList]; exact hlt)]; rfl
      have HC := Lib.hid hce
      clear hce
      cases hb : Tom.bare s[k] with
      | true =>
        rw [hb] at HB
        have HH := Lib.hid hb
        clear hb
        go_wp2_with (go_at_call 40; refine (HB.out _).mono ?_; rintro e w3 ⟨rfl, rfl⟩)
        go_round
        case rel =>
          refine ⟨k + 1, by omega, by go_num, Lib.hid fun j hj => ?_⟩
          by_cases e : j = k
          · subst e; rw [HC.out]; exact HH.out
          · exact hall.out j (by omega)
        case measure => simp [intOf]; omega
      | false =>
        rw [hb] at HB
        have HH := Lib.hid hb
        clear hb
        go_wp2_with (go_at_call 40; refine (HB.out _).mono ?_; rintro e w3 ⟨rfl, rfl⟩)
        go_ret
        exact ⟨congrArg (fun n : Nat => Go.Ending.returned (.int .i64 (n : Int))) (Tom.run_at _ _ k (by rw [size_toList]; exact hk) hall.out (fun _ => by rw [HC.out]; exact HH.out)).symm, rfl⟩
    · have hk8 : k = s.size := by omega
      go_wp2_with fail
      go_ret
      have hr := Tom.run_at _ _ k (by rw [size_toList]; exact hk) hall.out (fun h => absurd (by rwa [size_toList] at h) hlt)
      exact ⟨congrArg (fun n : Nat => Go.Ending.returned (.int .i64 (n : Int))) (hr.trans hk8).symm, rfl⟩
theorem lineEnd_prefix (l : List UInt8) : Tom.lineEnd l = if Lib.hasPrefix l [10] then 1 else if Lib.hasPrefix l [13, 10] then 2 else 0 := by
  match l with
  | [] => rfl
  | [a] =>
    by_cases h : a = 10
    · subst h; rfl
    · by_cases h2 : a = 13
      · subst h2; rfl
      · simp [Tom.lineEnd, Lib.hasPrefix, h, Ne.symm h, Ne.symm h2]
  | a :: b :: r =>
    by_cases h : a = 10
    · subst h; simp [Tom.lineEnd, Lib.hasPrefix]
    · by_cases h2 : a = 13
      · subst h2
        by_cases h3 : b = 10
        · subst h3; simp [Tom.lineEnd, Lib.hasPrefix]
        · simp [Tom.lineEnd, Lib.hasPrefix, h3, Ne.symm h3]
      · simp [Tom.lineEnd, Lib.hasPrefix, h, h2, Ne.symm h, Ne.symm h2]
set_option maxRecDepth 100000 in
set_option maxHeartbeats 4000000 in
theorem lineEnd_any (s : ByteArray) (w : World) :
    Calls Tryd.prog 20 #[.string s] w fun e w' => e = .returned (.int .i64 (Tom.lineEnd s.data.toList : Nat)) ∧ w = w' := by
  rw [lineEnd_prefix]
  have H1 := Lib.hid (fun (w : World) => Tryd.strings_HasPrefix s ⟨#[10]⟩ w)
  have H2 := Lib.hid (fun (w : World) => Tryd.strings_HasPrefix s ⟨#[13, 10]⟩ w)
  have e1 : (⟨#[10]⟩ : ByteArray).data.toList = [10] := rfl
  have e2 : (⟨#[13, 10]⟩ : ByteArray).data.toList = [13, 10] := rfl
  rw [e1] at H1
  rw [e2] at H2
  clear e1 e2
  generalize Lib.hasPrefix s.data.toList [10] = b1 at *
  generalize Lib.hasPrefix s.data.toList [13, 10] = b2 at *
  go_enter Tryd.func20, Tryd.ntmps20
  cases b1 with
  | true =>
    go_wp2_with (go_at_call 38; refine (H1.out _).mono ?_; rintro e w3 ⟨rfl, rfl⟩)
    go_ret
    exact ⟨rfl, rfl⟩
  | false =>
    cases b2 with
    | true =>
      go_wp2_with (go_at_call 38; (first | refine (H1.out _).mono ?_ | refine (H2.out _).mono ?_); rintro e w3 ⟨rfl, rfl⟩)
      go_ret
      exact ⟨rfl, rfl⟩
    | false =>
      go_wp2_with (go_at_call 38; (first | refine (H1.out _).mono ?_ | refine (H2.out _).mono ?_); rintro e w3 ⟨rfl, rfl⟩)
      go_ret
      exact ⟨rfl, rfl⟩
end Go.Proofs.YtdhbljbfjdlcdaaDoor
