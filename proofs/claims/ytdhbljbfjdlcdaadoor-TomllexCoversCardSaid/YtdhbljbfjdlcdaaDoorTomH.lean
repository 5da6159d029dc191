/-
  tomllex.escape: the escapes of eight hexadecimal digits.
-/
import Derived.Test.YtdhbljbfjdlcdaaDoorTomG
namespace Go.Proofs.YtdhbljbfjdlcdaaDoor
open Go.RowKit
set_option maxRecDepth 100000 in
set_option maxHeartbeats 4000000 in
theorem escape_hex8 (s : ByteArray) (w : World) (hs : 2 + 8 ≤ s.size) (hm : s.size ≤ 140737488351232) (n1 : ((s[1].toNat : Int) = 85)) (o : Option (List UInt8 × Nat))
    (ho : o = match Tom.hexNum 8 0 (s.data.toList.drop 2) with | some n => if Tom.scalar n then some (Tom.enc n, 10) else none | none => none) :
    Calls Tryd.prog 71 #[.string s] w (RetE w o) := by
  have HO := Lib.hid ho
  clear ho
  have h2 : ¬ ((s.size : Int) < 2) := by omega
  have h6 : ¬ ((s.size : Int) < 10) := by omega
  go_enter Tryd.func71, Tryd.ntmps71
  go_wp2
  generalize decide ((s.size : Int) < 2) = b12
  generalize decide ((s.size : Int) < 10) = b38
  go_loop [40, 5] (fun i y => ∃ k v : Nat, k ≤ 8 ∧ i = .int .i64 k ∧ y = .int .i64 v ∧ v < 16 ^ k ∧ Hid (Tom.hexNum 8 0 (s.data.toList.drop 2) = Tom.hexNum (8 - k) v (s.data.toList.drop (2 + k)))) (fun i _ => 8 - (intOf i).toNat)
  case atStart => exact ⟨0, 0, by omega, rfl, rfl, by decide, Lib.hid rfl⟩
  case round =>
    obtain ⟨k, v, hk, rfl, rfl, hv, HH⟩ := hrel
    by_cases hlt : k < 8
    · have g1 : 2 + (k : Int) < s.size := by omega
      have g2 : 0 ≤ 2 + (k : Int) := by omega
      have g3 : (2 + (k : Int)).toNat = 2 + k := by omega
      have hI : ∀ w : World, Calls Tryd.prog 39 #[.string ⟨#[48, 49, 50, 51, 52, 53, 54, 55, 56, 57, 97, 98, 99, 100, 101, 102]⟩, .int .u8 (bits .or .u8 (s[2 + k].toNat : Int) 32)] w fun e w' => e = .returned (.int .i64 (hexD s[2 + k])) ∧ w' = w := fun w => Tryd.strings_IndexByte ⟨#[48, 49, 50, 51, 52, 53, 54, 55, 56, 57, 97, 98, 99, 100, 101, 102]⟩ _ w
      have hdr : s.data.toList.drop (2 + k) = s[2 + k] :: s.data.toList.drop (2 + (k + 1)) := List.drop_eq_getElem_cons (by rw [size_toList]; omega)
      have hx : Tom.hexNum (8 - k) v (s.data.toList.drop (2 + k)) = match Tom.digit s[2 + k] with | some d => Tom.hexNum (8 - (k + 1)) (16 * v + d) (s.data.toList.drop (2 + (k + 1))) | none => none := by
        rw [hdr, show 8 - k = (8 - (k + 1)) + 1 by omega]
        rfl
      have hq := HH.out
      rw [hx] at hq
      have hD := hexD_digit s[2 + k]
      cases hd : Tom.digit s[2 + k] with
      | none =>
        rw [hd] at hq hD
        have hD : hexD s[2 + k] < 0 ∨ s[2 + k].toNat < 48 := by simpa using hD
        have HI := Lib.hid hI
        have hon : o = none := by rw [HO.out, hq]
        have HN := Lib.hid hon
        clear hI hdr hx hq hd hon
        generalize hexD s[2 + k] = e at *
        go_wp2_with (go_at_call 39; refine (HI.out _).mono ?_; rintro e w3 ⟨rfl, rfl⟩)
        all_goals first
          | (exfalso; omega)
          | (go_ret2; exact ⟨by rw [HN.out]; rfl, Below.refl _ _⟩)
      | some d =>
        rw [hd] at hq hD
        have hD : (hexD s[2 + k] = (d : Int) ∧ 48 ≤ s[2 + k].toNat) ∧ d < 16 := by simpa using hD
        obtain ⟨⟨hD1, hD2⟩, hD3⟩ := hD
        rw [hD1] at hI
        have HI := Lib.hid hI
        have HQ := Lib.hid hq
        have hp : 16 * v + d < 16 ^ (k + 1) := by rw [Nat.pow_succ]; omega
        have hv2 : v < 268435456 := Nat.lt_of_lt_of_le hv (Nat.le_trans (Nat.pow_le_pow_right (by decide) (show k ≤ 7 by omega)) (by decide))
        have hor := or_shift v d hv2 hD3
        have HP := Lib.hid hp
        have HV := Lib.hid hv
        clear hI hdr hx hq hd hD1 hp hv
        have g7 : 48 ≤ (s[2 + k].toNat : Int) := by omega
        go_wp2_with (go_at_call 39; refine (HI.out _).mono ?_; rintro e w3 ⟨rfl, rfl⟩)
        go_round
        case rel => exact ⟨k + 1, 16 * v + d, by omega, by go_num, by go_num, HP.out, HQ⟩
        case measure => simp [intOf]; omega
    · have hk4 : k = 8 := by omega
      subst hk4
      have hv2 : v < 4294967296 := hv
      have hO2 : o = if Tom.scalar v then some (Tom.enc v, 10) else none := by
        rw [HO.out, HH.out]
        rfl
      have hv3 : (v : Int) < 4294967296 := by omega
      obtain ⟨M, hM1, hM2, hM3⟩ : ∃ M : Nat, min (v : Int) 1073741824 = (M : Int) ∧ Tom.scalar M = Tom.scalar v ∧ (Tom.scalar v = true → M = v) := by
        by_cases h : v ≤ 1073741824
        · exact ⟨v, by omega, rfl, fun _ => rfl⟩
        · have e : Tom.scalar v = false := by unfold Tom.scalar; simp; omega
          exact ⟨1073741824, by omega, by rw [e]; decide, fun h2 => by rw [e] at h2; cases h2⟩
      have hM4 : M ≤ 1073741824 := by omega
      have HM := Lib.hid hM1
      have HX := Lib.hid hM4
      have hE := fun (g : Nat) (w : World) => encode_one g M w (by omega)
      rw [hM2] at hE
      clear HH HO hv hv2 hM1 hM4 hM2
      cases hs2 : Tom.scalar v with
      | true =>
        rw [hs2] at hO2
        have HN := Lib.hid hO2
        rw [hs2] at hE hM3
        rw [hM3 rfl] at hE
        have HM := Lib.hid (HM.out.trans (by rw [hM3 rfl]))
        have HE := Lib.hid hE
        clear hO2 hs2 hE hM3
        go_wp2_with (go_at_call 90; refine (HE.out w.heap.size _ ((cell_one _ _ _).trans (by rw [HM.out]))).mono ?_; rintro e w4 ⟨rfl, hb4⟩)
        go_ret2
        exact ⟨by rw [HN.out]; rfl, ((Below.refl _ _).alloc (Nat.le_refl _) _).trans (hb4.mono (by simp only [World.size_alloc]; omega))⟩
      | false =>
        rw [hs2] at hO2
        have HN := Lib.hid hO2
        rw [hs2] at hE hM3
        have HE := Lib.hid hE
        clear hO2 hs2 hE hM3
        go_wp2_with (go_at_call 90; refine (HE.out w.heap.size _ ((cell_one _ _ _).trans (by rw [HM.out]))).mono ?_; rintro e w4 ⟨rfl, hb4⟩)
        go_ret2
        exact ⟨by rw [HN.out]; rfl, ((Below.refl _ _).alloc (Nat.le_refl _) _).trans (hb4.mono (by simp only [World.size_alloc]; omega))⟩
end Go.Proofs.YtdhbljbfjdlcdaaDoor
