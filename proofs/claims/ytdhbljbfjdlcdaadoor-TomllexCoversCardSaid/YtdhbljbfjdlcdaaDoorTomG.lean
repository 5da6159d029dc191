/-
  tomllex.escape: the hexadecimal escapes.
-/
import Derived.Test.YtdhbljbfjdlcdaaDoorTomF
namespace Go.Proofs.YtdhbljbfjdlcdaaDoor
open Go.RowKit
def hexL : List UInt8 := [48, 49, 50, 51, 52, 53, 54, 55, 56, 57, 97, 98, 99, 100, 101, 102]
/-- What IndexByte answers at a sign with bit 32 set. -/
def hexD (c : UInt8) : Int := Lib.indexByte hexL ((bits .or .u8 (c.toNat : Int) 32).toNat.toUInt8)
theorem hexD_digit : ∀ c : UInt8, (match Tom.digit c with | some d => decide (hexD c = (d : Int)) && decide (48 ≤ c.toNat) && decide (d < 16) | none => decide (hexD c < 0) || decide (c.toNat < 48)) = true := by
  refine bytes_all ?_
  decide +kernel
theorem or_shift (v d : Nat) (hv : v < 268435456) (hd : d < 16) : bits .or .i64 ((v : Int) * 16) (d : Int) = ((16 * v + d : Nat) : Int) := by
  have e1 : (v : Int) * 16 = ((16 * v : Nat) : Int) := by omega
  have hOr : (16 * v ||| d) = 16 * v + d := (Nat.two_pow_add_eq_or_of_lt (i := 4) (by omega) v).symm
  rw [e1]
  show IntKind.i64.wrap ((BitVec.ofInt 64 ((16 * v : Nat) : Int) ||| BitVec.ofInt 64 (d : Int)).toNat : Int) = _
  rw [BitVec.ofInt_natCast, BitVec.ofInt_natCast, BitVec.toNat_or, BitVec.toNat_ofNat, BitVec.toNat_ofNat, Nat.mod_eq_of_lt (by omega), Nat.mod_eq_of_lt (by omega), hOr, IntKind.wrap_i64]
  omega
set_option maxRecDepth 100000 in
set_option maxHeartbeats 4000000 in
theorem escape_hex4 (s : ByteArray) (w : World) (hs : 2 + 4 ≤ s.size) (hm : s.size ≤ 140737488351232) (n1 : ((s[1].toNat : Int) = 117)) (o : Option (List UInt8 × Nat))
    (ho : o = match Tom.hexNum 4 0 (s.data.toList.drop 2) with | some n => if Tom.scalar n then some (Tom.enc n, 6) else none | none => none) :
    Calls Tryd.prog 71 #[.string s] w (RetE w o) := by
  have HO := Lib.hid ho
  clear ho
  have h2 : ¬ ((s.size : Int) < 2) := by omega
  have h6 : ¬ ((s.size : Int) < 6) := by omega
  go_enter Tryd.func71, Tryd.ntmps71
  go_wp2
  generalize decide ((s.size : Int) < 2) = b12
  generalize decide ((s.size : Int) < 6) = b38
  go_loop [40, 5] (fun i y => ∃ k v : Nat, k ≤ 4 ∧ i = .int .i64 k ∧ y = .int .i64 v ∧ v < 16 ^ k ∧ Hid (Tom.hexNum 4 0 (s.data.toList.drop 2) = Tom.hexNum (4 - k) v (s.data.toList.drop (2 + k)))) (fun i _ => 4 - (intOf i).toNat)
  case atStart => exact ⟨0, 0, by omega, rfl, rfl, by decide, Lib.hid rfl⟩
  case round =>
    obtain ⟨k, v, hk, rfl, rfl, hv, HH⟩ := hrel
    by_cases hlt : k < 4
    · have g1 : 2 + (k : Int) < s.size := by omega
      have g2 : 0 ≤ 2 + (k : Int) := by omega
      have g3 : (2 + (k : Int)).toNat = 2 + k := by omega
      have hI : ∀ w : World, Calls Tryd.prog 39 #[.string ⟨#[48, 49, 50, 51, 52, 53, 54, 55, 56, 57, 97, 98, 99, 100, 101, 102]⟩, .int .u8 (bits .or .u8 (s[2 + k].toNat : Int) 32)] w fun e w' => e = .returned (.int .i64 (hexD s[2 + k])) ∧ w' = w := fun w => Tryd.strings_IndexByte ⟨#[48, 49, 50, 51, 52, 53, 54, 55, 56, 57, 97, 98, 99, 100, 101, 102]⟩ _ w
      have hdr : s.data.toList.drop (2 + k) = s[2 + k] :: s.data.toList.drop (2 + (k + 1)) := List.drop_eq_getElem_cons (by rw [size_toList]; omega)
      have hx : Tom.hexNum (4 - k) v (s.data.toList.drop (2 + k)) = match Tom.digit s[2 + k] with | some d => Tom.hexNum (4 - (k + 1)) (16 * v + d) (s.data.toList.drop (2 + (k + 1))) | none => none := by
        rw [hdr, show 4 - k = (4 - (k + 1)) + 1 by omega]
        rfl
      have hq := HH.out
      rw [hx] at hq
      have hD := hexD_digit s[2 + k]
      cases hd : Tom.digit s[2 + k] with
      | none =>
        rw [hd] at hq hD
        have hD : hexD s[2 + k] < 0 ∨ s[2 + k].toNat < 48 := by simpa using hD
        have HI := Lib.hid hI
        have hon : o = none := by rw [HO.out, hq]
        have HN := Lib.hid hon
        clear hI hdr hx hq hd hon
        generalize hexD s[2 + k] = e at *
        go_wp2_with (go_at_call 39; refine (HI.out _).mono ?_; rintro e w3 ⟨rfl, rfl⟩)
        all_goals first
          | (exfalso; omega)
          | (go_ret2; exact ⟨by rw [HN.out]; rfl, Below.refl _ _⟩)
      | some d =>
        rw [hd] at hq hD
        have hD : (hexD s[2 + k] = (d : Int) ∧ 48 ≤ s[2 + k].toNat) ∧ d < 16 := by simpa using hD
        obtain ⟨⟨hD1, hD2⟩, hD3⟩ := hD
        rw [hD1] at hI
        have HI := Lib.hid hI
        have HQ := Lib.hid hq
        have hp : 16 * v + d < 16 ^ (k + 1) := by rw [Nat.pow_succ]; omega
        have hv2 : v < 268435456 := Nat.lt_of_lt_of_le hv (Nat.le_trans (Nat.pow_le_pow_right (by decide) hk) (by decide))
        have hor := or_shift v d hv2 hD3
        have HP := Lib.hid hp
        have HV := Lib.hid hv
        clear hI hdr hx hq hd hD1 hp hv
        have g7 : 48 ≤ (s[2 + k].toNat : Int) := by omega
        go_wp2_with (go_at_call 39; refine (HI.out _).mono ?_; rintro e w3 ⟨rfl, rfl⟩)
        go_round
        case rel => exact ⟨k + 1, 16 * v + d, by omega, by go_num, by go_num, HP.out, HQ⟩
        case measure => simp [intOf]; omega
    · have hk4 : k = 4 := by omega
      subst hk4
      have hv2 : v < 65536 := hv
      have hO2 : o = if Tom.scalar v then some (Tom.enc v, 6) else none := by
        rw [HO.out, HH.out]
        rfl
      have hv3 : (v : Int) < 65536 := by omega
      have hmin : min (v : Int) 1073741824 = v := by omega
      have HM := Lib.hid hmin
      clear hmin
      have HV := Lib.hid hv2
      clear HH HO hv hv2
      cases hs2 : Tom.scalar v with
      | true =>
        rw [hs2] at hO2
        have HN := Lib.hid hO2
        have HE := Lib.hid (fun (g : Nat) (w : World) => encode_one g v w (by have := HV.out; omega))
        rw [hs2] at HE
        clear hO2 hs2
        go_wp2_with (go_at_call 90; refine (HE.out w.heap.size _ ((cell_one _ _ _).trans (by rw [HM.out]))).mono ?_; rintro e w4 ⟨rfl, hb4⟩)
        go_ret2
        exact ⟨by rw [HN.out]; rfl, ((Below.refl _ _).alloc (Nat.le_refl _) _).trans (hb4.mono (by simp only [World.size_alloc]; omega))⟩
      | false =>
        rw [hs2] at hO2
        have HN := Lib.hid hO2
        have HE := Lib.hid (fun (g : Nat) (w : World) => encode_one g v w (by have := HV.out; omega))
        rw [hs2] at HE
        clear hO2 hs2
        go_wp2_with (go_at_call 90; refine (HE.out w.heap.size _ ((cell_one _ _ _).trans (by rw [HM.out]))).mono ?_; rintro e w4 ⟨rfl, hb4⟩)
        go_ret2
        exact ⟨by rw [HN.out]; rfl, ((Below.refl _ _).alloc (Nat.le_refl _) _).trans (hb4.mono (by simp only [World.size_alloc]; omega))⟩
end Go.Proofs.YtdhbljbfjdlcdaaDoor
