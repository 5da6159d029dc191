/-
  The reference's escape by its contract. Laid by wip/gen/refesc.py.
-/
import Derived.Test.YtdhbljbfjdlcdaaDoorRefF
import Derived.Test.YtdhbljbfjdlcdaaDoorTomI
namespace Go.Proofs.YtdhbljbfjdlcdaaDoor
open Go.RowKit
theorem utf8_enc (v : Nat) (h : Tom.scalar v = true) : Utf8.encode (v : Int) = ⟨(Tom.enc v).toArray⟩ := by
  have hv : Utf8.valid (v : Int) = true := by
    unfold Tom.scalar at h
    simp only [Bool.or_eq_true, Bool.and_eq_true, decide_eq_true_eq] at h
    unfold Utf8.valid
    simp only [Bool.or_eq_true, Bool.and_eq_true, decide_eq_true_eq]
    omega
  unfold Utf8.encode Tom.enc
  simp only [hv, if_true, Int.toNat_natCast]
  split
  · rfl
  · split
    · rfl
    · split <;> rfl
theorem digit_lt (c : UInt8) (d : Nat) (h : Tom.digit c = some d) : d < 16 := by
  unfold Tom.digit at h
  simp only [Bool.and_eq_true, decide_eq_true_eq, UInt8.le_iff_toNat_le] at h
  split at h
  · rename_i h1
    have := h1.2
    injection h with h
    have e : (57 : UInt8).toNat = 57 := rfl
    omega
  · split at h
    · rename_i h1
      have := h1.2
      injection h with h
      have e : (102 : UInt8).toNat = 102 := rfl
      omega
    · split at h
      · rename_i h1
        have := h1.2
        injection h with h
        have e : (70 : UInt8).toNat = 70 := rfl
        omega
      · simp at h
def RetV (o : Option (List UInt8 × Nat)) (w : World) (e : Go.Ending) (w' : World) : Prop := e = .returned (.tuple #[.string (escOf o).1, .int .i64 ((escOf o).2 : Int)]) ∧ w = w'
set_option maxRecDepth 100000 in
set_option maxHeartbeats 4000000 in
theorem rescape_short (s : ByteArray) (a : Nat) (w : World) (hs : s.size ≤ a + 1) (hm : a ≤ 140737488351232) :
    Calls Tryd.prog 74 #[.string s, .int .i64 a] w (RetV none w) := by
  have h2 : (s.size : Int) ≤ (a : Int) + 1 := by omega
  go_enter Tryd.func74, Tryd.ntmps74
  go_wp2
  go_ret2
  exact ⟨rfl, rfl⟩
set_option maxRecDepth 100000 in
set_option maxHeartbeats 4000000 in
theorem rescape_plain (s : ByteArray) (a : Nat) (w : World) (hs : a + 1 < s.size) (hm : s.size ≤ 140737488351232) (h1 : s[a + 1] ≠ 117) (h2 : s[a + 1] ≠ 85) :
    Calls Tryd.prog 74 #[.string s, .int .i64 a] w (RetV (esc2 s[a + 1]) w) := by
  have g1 : (a : Int) + 1 < s.size := by omega
  have g2 : 0 ≤ (a : Int) + 1 := by omega
  have g3 : ((a : Int) + 1).toNat = a + 1 := by omega
  have n1 : ¬ ((s[a + 1].toNat : Int) = 117) := fun e => h1 (UInt8.toNat_inj.1 (by omega : s[a + 1].toNat = 117))
  have n2 : ¬ ((s[a + 1].toNat : Int) = 85) := fun e => h2 (UInt8.toNat_inj.1 (by omega : s[a + 1].toNat = 85))
  clear h1 h2
  go_enter Tryd.func74, Tryd.ntmps74
  go_wp2
  all_goals
    go_ret2
    try simp only [beq_iff_eq, beq_eq_false_iff_ne, ne_eq] at *
    first
      | (rw [show s[a + 1] = 98 from UInt8.toNat_inj.1 (by show s[a + 1].toNat = 98; omega)]; exact ⟨rfl, rfl⟩)
      | (rw [show s[a + 1] = 116 from UInt8.toNat_inj.1 (by show s[a + 1].toNat = 116; omega)]; exact ⟨rfl, rfl⟩)
      | (rw [show s[a + 1] = 110 from UInt8.toNat_inj.1 (by show s[a + 1].toNat = 110; omega)]; exact ⟨rfl, rfl⟩)
      | (rw [show s[a + 1] = 102 from UInt8.toNat_inj.1 (by show s[a + 1].toNat = 102; omega)]; exact ⟨rfl, rfl⟩)
      | (rw [show s[a + 1] = 114 from UInt8.toNat_inj.1 (by show s[a + 1].toNat = 114; omega)]; exact ⟨rfl, rfl⟩)
      | (rw [show s[a + 1] = 34 from UInt8.toNat_inj.1 (by show s[a + 1].toNat = 34; omega)]; exact ⟨rfl, rfl⟩)
      | (rw [show s[a + 1] = 92 from UInt8.toNat_inj.1 (by show s[a + 1].toNat = 92; omega)]; exact ⟨rfl, rfl⟩)
      | (rw [esc2_none s[a + 1] (by omega) (by omega) (by omega) (by omega) (by omega) (by omega) (by omega)]; exact ⟨rfl, rfl⟩)
set_option maxRecDepth 100000 in
set_option maxHeartbeats 4000000 in
theorem rescape_hex4 (s : ByteArray) (a : Nat) (w : World) (hs : a + 1 < s.size) (hm : s.size ≤ 140737488351232) (n1 : ((s[a + 1].toNat : Int) = 117)) (o : Option (List UInt8 × Nat))
    (ho : o = match Tom.hexNum 4 0 (s.data.toList.drop (a + 2)) with | some n => if Tom.scalar n then some (Tom.enc n, 6) else none | none => none) :
    Calls Tryd.prog 74 #[.string s, .int .i64 a] w (RetV o w) := by
  have HO := Lib.hid ho
  clear ho
  have g1 : (a : Int) + 1 < s.size := by omega
  have g2 : 0 ≤ (a : Int) + 1 := by omega
  have g3 : ((a : Int) + 1).toNat = a + 1 := by omega
  go_enter Tryd.func74, Tryd.ntmps74
  go_wp2
  clear g1 g2 g3
  generalize decide ((s.size : Int) ≤ (a : Int) + 1) = b13
  generalize (s[a + 1].toNat : Int) = i17 at *
  go_loop [7, 8] (fun y i => ∃ k v : Nat, k ≤ 4 ∧ i = .int .i64 k ∧ y = .int .i64 v ∧ v < 16 ^ k ∧ Hid (Tom.hexNum 4 0 (s.data.toList.drop (a + 2)) = Tom.hexNum (4 - k) v (s.data.toList.drop (a + 2 + k)))) (fun _ i => 4 - (intOf i).toNat)
  case atStart => exact ⟨0, 0, by omega, rfl, rfl, by decide, Lib.hid rfl⟩
  case round =>
    clear n1
    obtain ⟨k, v, hk, rfl, rfl, hv, HH⟩ := hrel
    by_cases hlt : k < 4
    · by_cases hin : a + 2 + k < s.size
      · have g1 : (a : Int) + 2 + (k : Int) < s.size := by omega
        have g2 : 0 ≤ (a : Int) + 2 + (k : Int) := by omega
        have g3 : ((a : Int) + 2 + (k : Int)).toNat = a + 2 + k := by omega
        have hdr : s.data.toList.drop (a + 2 + k) = s[a + 2 + k] :: s.data.toList.drop (a + 2 + (k + 1)) := List.drop_eq_getElem_cons (by rw [size_toList]; omega)
        have hx : Tom.hexNum (4 - k) v (s.data.toList.drop (a + 2 + k)) = match Tom.digit s[a + 2 + k] with | some d => Tom.hexNum (4 - (k + 1)) (16 * v + d) (s.data.toList.drop (a + 2 + (k + 1))) | none => none := by
          rw [hdr, show 4 - k = (4 - (k + 1)) + 1 by omega]
          rfl
        have hq := HH.out
        rw [hx] at hq
        have hI := fun w => rdigit_any s[a + 2 + k] w
        unfold digitI at hI
        cases hd : Tom.digit s[a + 2 + k] with
        | none =>
          rw [hd] at hq hI
          have HI := Lib.hid hI
          have hon : o = none := by rw [HO.out, hq]
          have HN := Lib.hid hon
          clear hI hdr hx hq hd hon
          go_wp2_with (go_at_call 91; refine (HI.out _).mono ?_; rintro e w3 ⟨rfl, rfl⟩)
          go_ret2
          exact ⟨by rw [HN.out]; rfl, rfl⟩
        | some d =>
          rw [hd] at hq hI
          have hd16 := digit_lt _ _ hd
          have HI := Lib.hid hI
          have HQ := Lib.hid hq
          have hp : 16 * v + d < 16 ^ (k + 1) := by rw [Nat.pow_succ]; omega
          have hv2 : v < 4294967296 := Nat.lt_of_lt_of_le hv (Nat.le_trans (Nat.pow_le_pow_right (by decide) hk) (by decide))
          have HP := Lib.hid hp
          clear hI hdr hx hq hd hp hv
          have hdp : ¬ ((d : Int) < 0) := by omega
          go_wp2_with (go_at_call 91; refine (HI.out _).mono ?_; rintro e w3 ⟨rfl, rfl⟩)
          go_round
          case rel => exact ⟨k + 1, 16 * v + d, by omega, by go_num, by go_num, HP.out, HQ⟩
          case measure => simp [intOf]; omega
      · have hq := HH.out
        rw [show s.data.toList.drop (a + 2 + k) = [] from List.drop_of_length_le (by rw [size_toList]; omega), show 4 - k = (4 - (k + 1)) + 1 by omega] at hq
        have hon : o = none := by rw [HO.out, hq]; rfl
        have HN := Lib.hid hon
        have g1 : (s.size : Int) ≤ (a : Int) + 2 + (k : Int) := by omega
        clear hq hon
        go_wp2
        go_ret2
        exact ⟨by rw [HN.out]; rfl, rfl⟩
    · have hkN : k = 4 := by omega
      subst hkN
      have hv2 : v < 4294967296 := Nat.lt_of_lt_of_le hv (by decide)
      have hO2 : o = if Tom.scalar v then some (Tom.enc v, 6) else none := by
        rw [HO.out, HH.out]
        rfl
      clear HH HO hv
      by_cases hsc : Tom.scalar v = true
      · rw [if_pos hsc] at hO2
        have HN := Lib.hid hO2
        have hu := utf8_enc v hsc
        have HU := Lib.hid hu
        unfold Tom.scalar at hsc
        simp only [Bool.or_eq_true, Bool.and_eq_true, decide_eq_true_eq] at hsc
        have c1 : ¬ (1114111 < (v : Int)) := by omega
        have c3 : (v : Int) ≤ 1114111 := by omega
        clear hO2 hu
        by_cases h5 : v < 55296
        · have c2 : ¬ (55296 ≤ (v : Int)) := by omega
          clear hsc
          go_wp2
          go_ret2
          exact ⟨by rw [HN.out, HU.out]; rfl, rfl⟩
        · have c2 : 55296 ≤ (v : Int) := by omega
          have c4 : ¬ ((v : Int) ≤ 57343) := by omega
          clear hsc
          go_wp2
          go_ret2
          exact ⟨by rw [HN.out, HU.out]; rfl, rfl⟩
      · rw [if_neg hsc] at hO2
        have HN := Lib.hid hO2
        unfold Tom.scalar at hsc
        simp only [Bool.or_eq_true, Bool.and_eq_true, decide_eq_true_eq] at hsc
        clear hO2
        by_cases h5 : 1114111 < v
        · have c1 : 1114111 < (v : Int) := by omega
          clear hsc
          go_wp2
          go_ret2
          exact ⟨by rw [HN.out]; rfl, rfl⟩
        · have c1 : ¬ (1114111 < (v : Int)) := by omega
          have c2 : 55296 ≤ (v : Int) := by omega
          have c4 : (v : Int) ≤ 57343 := by omega
          clear hsc
          go_wp2
          go_ret2
          exact ⟨by rw [HN.out]; rfl, rfl⟩
set_option maxRecDepth 100000 in
set_option maxHeartbeats 4000000 in
theorem rescape_hex8 (s : ByteArray) (a : Nat) (w : World) (hs : a + 1 < s.size) (hm : s.size ≤ 140737488351232) (n1 : ((s[a + 1].toNat : Int) = 85)) (o : Option (List UInt8 × Nat))
    (ho : o = match Tom.hexNum 8 0 (s.data.toList.drop (a + 2)) with | some n => if Tom.scalar n then some (Tom.enc n, 10) else none | none => none) :
    Calls Tryd.prog 74 #[.string s, .int .i64 a] w (RetV o w) := by
  have HO := Lib.hid ho
  clear ho
  have g1 : (a : Int) + 1 < s.size := by omega
  have g2 : 0 ≤ (a : Int) + 1 := by omega
  have g3 : ((a : Int) + 1).toNat = a + 1 := by omega
  go_enter Tryd.func74, Tryd.ntmps74
  go_wp2
  clear g1 g2 g3
  generalize decide ((s.size : Int) ≤ (a : Int) + 1) = b13
  generalize (s[a + 1].toNat : Int) = i17 at *
  go_loop [7, 8] (fun y i => ∃ k v : Nat, k ≤ 8 ∧ i = .int .i64 k ∧ y = .int .i64 v ∧ v < 16 ^ k ∧ Hid (Tom.hexNum 8 0 (s.data.toList.drop (a + 2)) = Tom.hexNum (8 - k) v (s.data.toList.drop (a + 2 + k)))) (fun _ i => 8 - (intOf i).toNat)
  case atStart => exact ⟨0, 0, by omega, rfl, rfl, by decide, Lib.hid rfl⟩
  case round =>
    clear n1
    obtain ⟨k, v, hk, rfl, rfl, hv, HH⟩ := hrel
    by_cases hlt : k < 8
    · by_cases hin : a + 2 + k < s.size
      · have g1 : (a : Int) + 2 + (k : Int) < s.size := by omega
        have g2 : 0 ≤ (a : Int) + 2 + (k : Int) := by omega
        have g3 : ((a : Int) + 2 + (k : Int)).toNat = a + 2 + k := by omega
        have hdr : s.data.toList.drop (a + 2 + k) = s[a + 2 + k] :: s.data.toList.drop (a + 2 + (k + 1)) := List.drop_eq_getElem_cons (by rw [size_toList]; omega)
        have hx : Tom.hexNum (8 - k) v (s.data.toList.drop (a + 2 + k)) = match Tom.digit s[a + 2 + k] with | some d => Tom.hexNum (8 - (k + 1)) (16 * v + d) (s.data.toList.drop (a + 2 + (k + 1))) | none => none := by
          rw [hdr, show 8 - k = (8 - (k + 1)) + 1 by omega]
          rfl
        have hq := HH.out
        rw [hx] at hq
        have hI := fun w => rdigit_any s[a + 2 + k] w
        unfold digitI at hI
        cases hd : Tom.digit s[a + 2 + k] with
        | none =>
          rw [hd] at hq hI
          have HI := Lib.hid hI
          have hon : o = none := by rw [HO.out, hq]
          have HN := Lib.hid hon
          clear hI hdr hx hq hd hon
          go_wp2_with (go_at_call 91; refine (HI.out _).mono ?_; rintro e w3 ⟨rfl, rfl⟩)
          go_ret2
          exact ⟨by rw [HN.out]; rfl, rfl⟩
        | some d =>
          rw [hd] at hq hI
          have hd16 := digit_lt _ _ hd
          have HI := Lib.hid hI
          have HQ := Lib.hid hq
          have hp : 16 * v + d < 16 ^ (k + 1) := by rw [Nat.pow_succ]; omega
          have hv2 : v < 4294967296 := Nat.lt_of_lt_of_le hv (Nat.le_trans (Nat.pow_le_pow_right (by decide) hk) (by decide))
          have HP := Lib.hid hp
          clear hI hdr hx hq hd hp hv
          have hdp : ¬ ((d : Int) < 0) := by omega
          go_wp2_with (go_at_call 91; refine (HI.out _).mono ?_; rintro e w3 ⟨rfl, rfl⟩)
          go_round
          case rel => exact ⟨k + 1, 16 * v + d, by omega, by go_num, by go_num, HP.out, HQ⟩
          case measure => simp [intOf]; omega
      · have hq := HH.out
        rw [show s.data.toList.drop (a + 2 + k) = [] from List.drop_of_length_le (by rw [size_toList]; omega), show 8 - k = (8 - (k + 1)) + 1 by omega] at hq
        have hon : o = none := by rw [HO.out, hq]; rfl
        have HN := Lib.hid hon
        have g1 : (s.size : Int) ≤ (a : Int) + 2 + (k : Int) := by omega
        clear hq hon
        go_wp2
        go_ret2
        exact ⟨by rw [HN.out]; rfl, rfl⟩
    · have hkN : k = 8 := by omega
      subst hkN
      have hv2 : v < 4294967296 := Nat.lt_of_lt_of_le hv (by decide)
      have hO2 : o = if Tom.scalar v then some (Tom.enc v, 10) else none := by
        rw [HO.out, HH.out]
        rfl
      clear HH HO hv
      by_cases hsc : Tom.scalar v = true
      · rw [if_pos hsc] at hO2
        have HN := Lib.hid hO2
        have hu := utf8_enc v hsc
        have HU := Lib.hid hu
        unfold Tom.scalar at hsc
        simp only [Bool.or_eq_true, Bool.and_eq_true, decide_eq_true_eq] at hsc
        have c1 : ¬ (1114111 < (v : Int)) := by omega
        have c3 : (v : Int) ≤ 1114111 := by omega
        clear hO2 hu
        by_cases h5 : v < 55296
        · have c2 : ¬ (55296 ≤ (v : Int)) := by omega
          clear hsc
          go_wp2
          go_ret2
          exact ⟨by rw [HN.out, HU.out]; rfl, rfl⟩
        · have c2 : 55296 ≤ (v : Int) := by omega
          have c4 : ¬ ((v : Int) ≤ 57343) := by omega
          clear hsc
          go_wp2
          go_ret2
          exact ⟨by rw [HN.out, HU.out]; rfl, rfl⟩
      · rw [if_neg hsc] at hO2
        have HN := Lib.hid hO2
        unfold Tom.scalar at hsc
        simp only [Bool.or_eq_true, Bool.and_eq_true, decide_eq_true_eq] at hsc
        clear hO2
        by_cases h5 : 1114111 < v
        · have c1 : 1114111 < (v : Int) := by omega
          clear hsc
          go_wp2
          go_ret2
          exact ⟨by rw [HN.out]; rfl, rfl⟩
        · have c1 : ¬ (1114111 < (v : Int)) := by omega
          have c2 : 55296 ≤ (v : Int) := by omega
          have c4 : (v : Int) ≤ 57343 := by omega
          clear hsc
          go_wp2
          go_ret2
          exact ⟨by rw [HN.out]; rfl, rfl⟩
theorem rescape_any (s : ByteArray) (a : Nat) (w : World) (ha : a < s.size) (hm : s.size ≤ 140737488351232) :
    Calls Tryd.prog 74 #[.string s, .int .i64 a] w (RetV (Tom.escape (s.data.toList.drop a)) w) := by
  have a0 : s.data.toList.drop a = s[a] :: s.data.toList.drop (a + 1) := List.drop_eq_getElem_cons (by rw [size_toList]; exact ha)
  by_cases h2 : s.size ≤ a + 1
  · rw [a0, List.drop_of_length_le (by rw [size_toList]; exact h2)]
    exact rescape_short s a w h2 (by omega)
  · have hs : a + 1 < s.size := by omega
    have a1 : s.data.toList.drop (a + 1) = s[a + 1] :: s.data.toList.drop (a + 2) := List.drop_eq_getElem_cons (by rw [size_toList]; omega)
    rw [a0, a1]
    by_cases h4 : s[a + 1] = 117
    · refine rescape_hex4 s a w hs hm (by rw [h4]; rfl) _ ?_
      rw [h4]; rfl
    · by_cases h8 : s[a + 1] = 85
      · refine rescape_hex8 s a w hs hm (by rw [h8]; rfl) _ ?_
        rw [h8]; rfl
      · rw [escape_esc2 _ _ _ h4 h8]
        exact rescape_plain s a w hs hm h4 h8
end Go.Proofs.YtdhbljbfjdlcdaaDoor
