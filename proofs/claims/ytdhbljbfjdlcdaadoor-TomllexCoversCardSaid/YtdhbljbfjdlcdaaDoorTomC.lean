/-
  tomllex.folded by its contract.
-/
import Derived.Test.YtdhbljbfjdlcdaaDoorTomB
namespace Go.Proofs.YtdhbljbfjdlcdaaDoor
open Go.RowKit
theorem ext_size (r : ByteArray) (n : Nat) : (r.extract n r.size).size = r.size - n := by
  have h := congrArg List.length (Lib.extract_to_end r n)
  rwa [size_toList, List.length_drop, size_toList] at h
theorem run_blank_from (s : ByteArray) (n : Nat) (w : World) (hs : s.size ≤ 140737488351232) :
    Calls Tryd.prog 18 #[.string (s.extract n s.size), .func (.func 19) #[] #[]] w fun e w' => e = .returned (.int .i64 (Tom.run Tom.blank (s.data.toList.drop n) : Nat)) ∧ w = w' := by
  have h := run_blank (s.extract n s.size) w (by rw [ext_size]; omega)
  rwa [Lib.extract_to_end] at h
theorem lineEnd_from (s : ByteArray) (n : Nat) (w : World) :
    Calls Tryd.prog 20 #[.string (s.extract n s.size)] w fun e w' => e = .returned (.int .i64 (Tom.lineEnd (s.data.toList.drop n) : Nat)) ∧ w = w' := by
  have h := lineEnd_any (s.extract n s.size) w
  rwa [Lib.extract_to_end] at h
theorem lineEnd_le (l : List UInt8) : Tom.lineEnd l ≤ l.length := by
  match l with
  | [] => exact Nat.le_refl _
  | [a] => unfold Tom.lineEnd; split <;> simp_all
  | a :: b :: r => unfold Tom.lineEnd; split <;> simp_all <;> omega
theorem lineEnd_le2 (l : List UInt8) : Tom.lineEnd l ≤ 2 := by
  unfold Tom.lineEnd; split <;> omega
theorem spaces_succ (f : Nat) (l : List UInt8) (m k : Nat) (hm : m = Tom.run Tom.blank l) (hk : k = Tom.lineEnd (l.drop m)) : Tom.spaces (f + 1) l = if m + k = 0 then 0 else m + k + Tom.spaces f (l.drop (m + k)) := by
  subst hm; subst hk; rfl
set_option maxRecDepth 100000 in
set_option maxHeartbeats 4000000 in
theorem folded_any (s : ByteArray) (w : World) (h1 : 1 ≤ s.size) (hs : s.size ≤ 140737488351232) :
    Calls Tryd.prog 70 #[.string s] w fun e w' => e = .returned (.int .i64 (Tom.folded s.data.toList : Nat)) ∧ w = w' := by
  have HR := Lib.hid (fun (n : Nat) (w : World) => run_blank_from s n w hs)
  have HL := Lib.hid (fun (n : Nat) (w : World) => lineEnd_from s n w)
  obtain ⟨m0, hm0⟩ : ∃ m, m = Tom.run Tom.blank (s.data.toList.drop 1) := ⟨_, rfl⟩
  have hle : 1 + m0 ≤ s.size := by
    have := Tom.run_le Tom.blank (s.data.toList.drop 1)
    rw [← hm0, List.length_drop, size_toList] at this
    omega
  have HR1 := HR.out 1
  rw [← hm0] at HR1
  have HR1 := Lib.hid HR1
  obtain ⟨k0, hk0⟩ : ∃ k, k = Tom.lineEnd (s.data.toList.drop (1 + m0)) := ⟨_, rfl⟩
  have HL1 := HL.out (1 + m0)
  rw [← hk0] at HL1
  have HL1 := Lib.hid HL1
  have hF : Tom.folded s.data.toList = if k0 = 0 then 0 else (1 + m0) + Tom.spaces s.data.toList.length (s.data.toList.drop (1 + m0)) := by
    unfold Tom.folded
    simp only [← hm0, ← hk0]
  clear hm0 hk0
  rw [hF]
  clear hF
  by_cases hk : k0 = 0
  · subst hk
    rw [if_pos rfl]
    go_enter Tryd.func70, Tryd.ntmps70
    go_wp2_with (first
      | (go_at_call 18; refine (HR1.out _).mono ?_; rintro e w3 ⟨rfl, rfl⟩)
      | (go_at_call 20; refine (HL1.out _).mono ?_; rintro e w3 ⟨rfl, rfl⟩))
    go_ret
    exact ⟨rfl, rfl⟩
  · rw [if_neg hk]
    obtain ⟨T, hT⟩ : ∃ T, T = 1 + m0 + Tom.spaces s.data.toList.length (s.data.toList.drop (1 + m0)) := ⟨_, rfl⟩
    rw [← hT]
    have HT := Lib.hid hT
    clear hT
    clear HL HR
    have HR := Lib.hid (fun (n : Nat) (w : World) => run_blank_from s n w hs)
    have HL := Lib.hid (fun (n : Nat) (w : World) => lineEnd_from s n w)
    go_enter Tryd.func70, Tryd.ntmps70
    go_wp2_with (first
      | (go_at_call 18; refine (HR1.out _).mono ?_; rintro e w3 ⟨rfl, rfl⟩)
      | (go_at_call 20; refine (HL1.out _).mono ?_; rintro e w3 ⟨rfl, rfl⟩))
    clear HR1 HL1
    generalize ((k0 : Int) == 0) = b14
    have H0 := Lib.hid hle
    clear hle
    go_loop [3] (fun i => ∃ (p f : Nat), p ≤ s.size ∧ i = .int .i64 p ∧ s.size - p ≤ f ∧ Hid (T = p + Tom.spaces f (s.data.toList.drop p))) (fun i => s.size - (intOf i).toNat)
    case atStart => exact ⟨1 + m0, s.data.toList.length, H0.out, by go_num, by rw [size_toList]; omega, HT⟩
    case round =>
      clear HT H0
      obtain ⟨p, f, hp, rfl, hf, HT⟩ := hrel
      obtain ⟨m, hm⟩ : ∃ m, m = Tom.run Tom.blank (s.data.toList.drop p) := ⟨_, rfl⟩
      obtain ⟨k, hk2⟩ : ∃ k, k = Tom.lineEnd (s.data.toList.drop (p + m)) := ⟨_, rfl⟩
      have hmk : p + m + k ≤ s.size := by
        have e1 := Tom.run_le Tom.blank (s.data.toList.drop p)
        have e2 := lineEnd_le (s.data.toList.drop (p + m))
        rw [← hm, List.length_drop, size_toList] at e1
        rw [← hk2, List.length_drop, size_toList] at e2
        omega
      have hS : T = if m + k = 0 then p else p + (m + k) + Tom.spaces (f - 1) (s.data.toList.drop (p + (m + k))) := by
        rw [HT.out]
        match f, hf with
        | 0, hf =>
          rw [if_pos (by omega)]
          rfl
        | f + 1, _ =>
          rw [spaces_succ f _ m k hm (by rw [List.drop_drop]; exact hk2), List.drop_drop, Nat.add_sub_cancel]
          by_cases e : m + k = 0
          · rw [if_pos e, if_pos e]; rfl
          · rw [if_neg e, if_neg e, Nat.add_assoc p]
      have HRp := HR.out p
      rw [← hm] at HRp
      have HRp := Lib.hid HRp
      have HLp := HL.out (p + m)
      rw [← hk2] at HLp
      have HLp := Lib.hid HLp
      clear hm hk2 HT
      by_cases e : m + k = 0
      · rw [if_pos e] at hS
        have HS := Lib.hid hS
        clear hS
        obtain ⟨rfl, rfl⟩ : m = 0 ∧ k = 0 := by omega
        clear e
        go_wp2_with (first
          | (go_at_call 18; refine (HRp.out _).mono ?_; rintro e w3 ⟨rfl, rfl⟩)
          | (go_at_call 20; refine (HLp.out _).mono ?_; rintro e w3 ⟨rfl, rfl⟩))
        go_ret
        exact ⟨congrArg (fun n : Nat => Go.Ending.returned (.int .i64 (n : Int))) HS.out.symm, rfl⟩
      · rw [if_neg e] at hS
        have HS := Lib.hid hS
        clear hS
        have e9 : ¬ ((m : Int) + k = 0) := by omega
        go_wp2_with (first
          | (go_at_call 18; refine (HRp.out _).mono ?_; rintro e w3 ⟨rfl, rfl⟩)
          | (go_at_call 20; refine (HLp.out _).mono ?_; rintro e w3 ⟨rfl, rfl⟩))
        go_round
        case rel => exact ⟨p + (m + k), f - 1, by omega, by go_num, by omega, HS⟩
        case measure => simp [intOf]; omega
end Go.Proofs.YtdhbljbfjdlcdaaDoor
