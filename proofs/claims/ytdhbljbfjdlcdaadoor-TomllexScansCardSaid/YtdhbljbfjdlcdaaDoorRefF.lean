/-
  The reference's folded by its contract.
-/
import Derived.Test.YtdhbljbfjdlcdaaDoorTomR
import Derived.Test.YtdhbljbfjdlcdaaDoorTom5
namespace Go.Proofs.YtdhbljbfjdlcdaaDoor
open Go.RowKit
theorem blank_cases (c : UInt8) : (Tom.blank c = true ∧ ((c.toNat : Int) == 32) = true) ∨ (Tom.blank c = true ∧ ((c.toNat : Int) == 9) = true ∧ ((c.toNat : Int) == 32) = false) ∨ (Tom.blank c = false ∧ ((c.toNat : Int) == 32) = false ∧ ((c.toNat : Int) == 9) = false) := by
  by_cases h : c = 32
  · subst h; exact Or.inl ⟨rfl, rfl⟩
  · by_cases h2 : c = 9
    · subst h2; exact Or.inr (Or.inl ⟨rfl, rfl, by decide⟩)
    · refine Or.inr (Or.inr ⟨by simp [Tom.blank, h, h2], ?_, ?_⟩)
      · rw [beq_eq_false_iff_ne]
        exact fun e => h (UInt8.toNat_inj.1 (by simpa using Int.ofNat_inj.1 e))
      · rw [beq_eq_false_iff_ne]
        exact fun e => h2 (UInt8.toNat_inj.1 (by simpa using Int.ofNat_inj.1 e))
set_option maxRecDepth 100000 in
set_option maxHeartbeats 4000000 in
theorem rfolded_any (s : ByteArray) (a : Nat) (w : World) (ha : a < s.size) (hs : s.size ≤ 140737488351232) :
    Calls Tryd.prog 73 #[.string s, .int .i64 a] w fun e w' => e = .returned (.int .i64 (Tom.folded (s.data.toList.drop a) : Nat)) ∧ w = w' := by
  have HL := Lib.hid (fun (n : Nat) (w : World) (h : n ≤ s.size) => rlineEnd_any s n w h hs)
  obtain ⟨m0, hm0⟩ : ∃ m, m = Tom.run Tom.blank (s.data.toList.drop (a + 1)) := ⟨_, rfl⟩
  have hF : Tom.folded (s.data.toList.drop a) = if Tom.lineEnd (s.data.toList.drop (a + 1 + m0)) = 0 then 0 else 1 + m0 + Tom.sp (s.data.toList.drop (a + 1 + m0)) := by
    rw [Tom.folded_sp]
    simp only [List.drop_drop]
    rw [← hm0, show a + (1 + m0) = a + 1 + m0 by omega]
  obtain ⟨F, hF2⟩ : ∃ F, F = Tom.folded (s.data.toList.drop a) := ⟨_, rfl⟩
  rw [← hF2] at hF ⊢
  have HF := Lib.hid hF
  have HM0 : Hid (a + 1 + m0 = a + 1 + Tom.run Tom.blank (s.data.toList.drop (a + 1))) := Lib.hid (by rw [hm0])
  clear hF hF2 hm0
  go_enter Tryd.func73, Tryd.ntmps73
  go_wp2
  go_loop [5] (fun i => ∃ j : Nat, a + 1 ≤ j ∧ j ≤ s.size ∧ i = .int .i64 j ∧ Hid (a + 1 + m0 = j + Tom.run Tom.blank (s.data.toList.drop j))) (fun i => s.size - (intOf i).toNat)
  case atStart => exact ⟨a + 1, by omega, by omega, by go_num, HM0⟩
  case round =>
    clear HM0
    obtain ⟨j, haj, hjs, rfl, HM⟩ := hrel
    by_cases hj : j < s.size
    · have e1 : s.data.toList.drop j = s[j] :: s.data.toList.drop (j + 1) := List.drop_eq_getElem_cons (by rw [size_toList]; exact hj)
      have hM := HM.out
      rw [e1, Tom.run_cons] at hM
      have hbc := blank_cases s[j]
      rcases hbc with ⟨hb, h32⟩ | ⟨hb, h9, h32⟩ | ⟨hb, h32, h9⟩
      · rw [hb, if_pos rfl] at hM
        have HM2 : Hid (a + 1 + m0 = (j + 1) + Tom.run Tom.blank (s.data.toList.drop (j + 1))) := Lib.hid (by omega)
        clear hM HM e1 hb
        go_wp2
        go_round
        case rel => exact ⟨j + 1, by omega, by omega, by go_num, HM2⟩
        case measure => simp [intOf]; omega
      · rw [hb, if_pos rfl] at hM
        have HM2 : Hid (a + 1 + m0 = (j + 1) + Tom.run Tom.blank (s.data.toList.drop (j + 1))) := Lib.hid (by omega)
        clear hM HM e1 hb
        go_wp2
        go_round
        case rel => exact ⟨j + 1, by omega, by omega, by go_num, HM2⟩
        case measure => simp [intOf]; omega
      · rw [hb, if_neg (by simp)] at hM
        have hF := HF.out
        rw [show a + 1 + m0 = j by omega, show 1 + m0 = j - a by omega] at hF
        have HLj := fun w => HL.out j w hjs
        obtain ⟨k, hk⟩ : ∃ k, k = Tom.lineEnd (s.data.toList.drop j) := ⟨_, rfl⟩
        rw [← hk] at hF HLj
        clear hM HM e1 hb hk
        by_cases hk0 : k = 0
        · rw [if_pos hk0] at hF
          subst hk0
          have HF2 := Lib.hid hF
          have HLk := Lib.hid HLj
          clear hF HF HLj
          go_wp2_with (go_at_call 24; refine (HLk.out _).mono ?_; rintro e w3 ⟨rfl, rfl⟩)
          go_ret
          exact ⟨by rw [HF2.out]; rfl, rfl⟩
        · rw [if_neg hk0] at hF
          have hk1 : ¬ ((k : Int) = 0) := by omega
          have HF2 : Hid (a + F = j + Tom.sp (s.data.toList.drop j)) := Lib.hid (by omega)
          have HLk := Lib.hid HLj
          clear hF HF hk0 HLj
          go_wp2_with (go_at_call 24; refine (HLk.out _).mono ?_; rintro e w3 ⟨rfl, rfl⟩)
          clear hk1 HLk h32 h9
          generalize ((k : Int) == 0) = b29
          have HF3 := Lib.hid HF2.out
          clear HF2
          go_loop [5] (fun i => ∃ p : Nat, a + 1 ≤ p ∧ p ≤ s.size ∧ i = .int .i64 p ∧ Hid (a + F = p + Tom.sp (s.data.toList.drop p))) (fun i => s.size - (intOf i).toNat)
          case atStart => exact ⟨j, haj, hjs, rfl, HF3⟩
          case round =>
            clear HF3
            obtain ⟨p, hap, hps, rfl, HP⟩ := hrel
            by_cases hp : p < s.size
            · have e1 : s.data.toList.drop p = s[p] :: s.data.toList.drop (p + 1) := List.drop_eq_getElem_cons (by rw [size_toList]; exact hp)
              have hP := HP.out
              rcases blank_cases s[p] with ⟨hb, h32⟩ | ⟨hb, h9, h32⟩ | ⟨hb, h32, h9⟩
              · rw [e1, Tom.sp_blank _ _ hb] at hP
                have HLp : Hid (∀ w : World, Calls Tryd.prog 24 #[.string s, .int .i64 p] w fun e w' => e = .returned (.int .i64 0) ∧ w = w') := Lib.hid (fun w => by
                  have := HL.out p w hps
                  rwa [e1, Tom.blank_line _ _ hb] at this)
                have HP2 : Hid (a + F = (p + 1) + Tom.sp (s.data.toList.drop (p + 1))) := Lib.hid (by omega)
                clear hP HP e1 hb
                go_wp2_with (go_at_call 24; refine (HLp.out _).mono ?_; rintro e w3 ⟨rfl, rfl⟩)
                go_round
                case rel => exact ⟨p + 1, by omega, by omega, by go_num, HP2⟩
                case measure => simp [intOf]; omega
              · rw [e1, Tom.sp_blank _ _ hb] at hP
                have HLp : Hid (∀ w : World, Calls Tryd.prog 24 #[.string s, .int .i64 p] w fun e w' => e = .returned (.int .i64 0) ∧ w = w') := Lib.hid (fun w => by
                  have := HL.out p w hps
                  rwa [e1, Tom.blank_line _ _ hb] at this)
                have HP2 : Hid (a + F = (p + 1) + Tom.sp (s.data.toList.drop (p + 1))) := Lib.hid (by omega)
                clear hP HP e1 hb
                go_wp2_with (go_at_call 24; refine (HLp.out _).mono ?_; rintro e w3 ⟨rfl, rfl⟩)
                go_round
                case rel => exact ⟨p + 1, by omega, by omega, by go_num, HP2⟩
                case measure => simp [intOf]; omega
              · rw [e1, Tom.sp_line _ _ hb, ← e1] at hP
                have HLq := fun w => HL.out p w hps
                have hle := lineEnd_le (s.data.toList.drop p)
                have hle2 := lineEnd_le2 (s.data.toList.drop p)
                rw [List.length_drop, size_toList] at hle
                rw [List.drop_drop] at hP
                generalize Tom.lineEnd (s.data.toList.drop p) = k2 at *
                by_cases hk2 : k2 = 0
                · subst hk2
                  rw [if_pos rfl] at hP
                  have HLp := Lib.hid HLq
                  have HP2 : Hid (a + F = p) := Lib.hid (by omega)
                  clear HLq hP HP e1 hb
                  go_wp2_with (go_at_call 24; refine (HLp.out _).mono ?_; rintro e w3 ⟨rfl, rfl⟩)
                  go_ret
                  refine ret_i64 ?_
                  have := HP2.out
                  omega
                · rw [if_neg hk2] at hP
                  have HP2 : Hid (a + F = (p + k2) + Tom.sp (s.data.toList.drop (p + k2))) := Lib.hid (by omega)
                  have hk3 : k2 = 1 ∨ k2 = 2 := by omega
                  rcases hk3 with rfl | rfl
                  · have HLp := Lib.hid HLq
                    clear HLq hP HP e1 hb hk2
                    go_wp2_with (go_at_call 24; refine (HLp.out _).mono ?_; rintro e w3 ⟨rfl, rfl⟩)
                    go_round
                    case rel => exact ⟨p + 1, by omega, by omega, by go_num, HP2⟩
                    case measure => simp [intOf]; omega
                  · have HLp := Lib.hid HLq
                    clear HLq hP HP e1 hb hk2
                    go_wp2_with (go_at_call 24; refine (HLp.out _).mono ?_; rintro e w3 ⟨rfl, rfl⟩)
                    go_round
                    case rel => exact ⟨p + 2, by omega, by omega, by go_num, HP2⟩
                    case measure => simp [intOf]; omega
            · have hP := HP.out
              rw [List.drop_of_length_le (by rw [size_toList]; omega), Tom.sp_nil] at hP
              have HP2 := Lib.hid hP
              clear hP HP
              go_wp2
              go_ret
              refine ret_i64 ?_
              have := HP2.out
              omega
    · have hF := HF.out
      have hM := HM.out
      have e0 : s.data.toList.drop j = [] := List.drop_of_length_le (by rw [size_toList]; omega)
      rw [e0, Tom.run_nil] at hM
      rw [show a + 1 + m0 = j by omega, e0, if_pos (show Tom.lineEnd [] = 0 from rfl)] at hF
      have HF2 := Lib.hid hF
      have HLk : Hid (∀ w : World, Calls Tryd.prog 24 #[.string s, .int .i64 j] w fun e w' => e = .returned (.int .i64 0) ∧ w = w') := Lib.hid (fun w => by
        have := HL.out j w hjs
        rwa [e0] at this)
      clear hF HF hM HM e0
      go_wp2_with (go_at_call 24; refine (HLk.out _).mono ?_; rintro e w3 ⟨rfl, rfl⟩)
      go_ret
      exact ⟨by rw [HF2.out]; rfl, rfl⟩
end Go.Proofs.YtdhbljbfjdlcdaaDoor
