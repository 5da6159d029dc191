/-
  The plain law of armor: hexadecimal texts and Base64 on lists of bytes. No program stands in it.
-/
namespace Arm
/-! ### Small things -/
theorem all_bytes (P : UInt8 → Prop) (h : ∀ n, n < 256 → P (UInt8.ofNat n)) (c : UInt8) : P c := by
  have := h c.toNat c.toNat_lt
  rwa [UInt8.ofNat_toNat] at this
def hexD : List UInt8 := [48, 49, 50, 51, 52, 53, 54, 55, 56, 57, 97, 98, 99, 100, 101, 102]
def sixD : List UInt8 := [65, 66, 67, 68, 69, 70, 71, 72, 73, 74, 75, 76, 77, 78, 79, 80, 81, 82, 83, 84, 85, 86, 87, 88, 89, 90,
  97, 98, 99, 100, 101, 102, 103, 104, 105, 106, 107, 108, 109, 110, 111, 112, 113, 114, 115, 116, 117, 118, 119, 120, 121, 122,
  48, 49, 50, 51, 52, 53, 54, 55, 56, 57, 43, 47]
/-- The place of a byte in an alphabet, or -1 (the first place). -/
def idx (al : List UInt8) (c : UInt8) : Int := match al.findIdx? (· == c) with | some i => (i : Int) | none => -1
/-- The table that 'values' fills: the last place below k. -/
def vals (al : List UInt8) (c : Nat) : Nat → Int
  | 0 => -1
  | k + 1 => if (al.getD k 0).toNat = c then (k : Int) else vals al c k
theorem idx_hit (al : List UInt8) (c : UInt8) (i : Nat) (hi : i < al.length) (h : al.getD i 0 = c) (hb : ∀ j, j < i → al.getD j 0 ≠ c) : idx al c = i := by
  unfold idx
  have : al.findIdx? (· == c) = some i := by
    rw [List.findIdx?_eq_some_iff_getElem]
    refine ⟨hi, ?_, fun j hj => ?_⟩
    · rw [List.getD_eq_getElem?_getD, List.getElem?_eq_getElem hi] at h
      simpa using h
    · have := hb j hj
      rw [List.getD_eq_getElem?_getD, List.getElem?_eq_getElem (by omega)] at this
      simpa using this
  rw [this]
theorem idx_none (al : List UInt8) (c : UInt8) (hb : ∀ j, j < al.length → al.getD j 0 ≠ c) : idx al c = -1 := by
  unfold idx
  have : al.findIdx? (· == c) = none := by
    rw [List.findIdx?_eq_none_iff]
    intro x hx
    obtain ⟨j, hj, rfl⟩ := List.getElem_of_mem hx
    have := hb j hj
    rw [List.getD_eq_getElem?_getD, List.getElem?_eq_getElem hj] at this
    simpa using this
  rw [this]
set_option maxRecDepth 100000 in
theorem vals_hex (c : UInt8) : vals hexD c.toNat 16 = idx hexD c :=
  all_bytes (fun c => vals hexD c.toNat 16 = idx hexD c) (by decide +kernel) c
set_option maxRecDepth 100000 in
theorem vals_six (c : UInt8) : vals sixD c.toNat 64 = idx sixD c :=
  all_bytes (fun c => vals sixD c.toNat 64 = idx sixD c) (by decide +kernel) c
def hexC (n : Nat) : UInt8 := hexD.getD n 0
def sixC (n : Nat) : UInt8 := sixD.getD n 0
theorem idx_hexC : ∀ n, n < 16 → idx hexD (hexC n) = n := by decide +kernel
theorem idx_sixC : ∀ n, n < 64 → idx sixD (sixC n) = n := by decide +kernel
theorem idx_hex (c : UInt8) : idx hexD c = -1 ∨ (0 ≤ idx hexD c ∧ idx hexD c < 16 ∧ hexC (idx hexD c).toNat = c) :=
  all_bytes (fun c => idx hexD c = -1 ∨ (0 ≤ idx hexD c ∧ idx hexD c < 16 ∧ hexC (idx hexD c).toNat = c)) (by decide +kernel) c
theorem idx_six (c : UInt8) : idx sixD c = -1 ∨ (0 ≤ idx sixD c ∧ idx sixD c < 64 ∧ sixC (idx sixD c).toNat = c) :=
  all_bytes (fun c => idx sixD c = -1 ∨ (0 ≤ idx sixD c ∧ idx sixD c < 64 ∧ sixC (idx sixD c).toNat = c)) (by decide +kernel) c
theorem idx_six_pad : idx sixD 61 = -1 := by decide +kernel
theorem sixC_ne_pad : ∀ n, n < 64 → sixC n ≠ 61 := by decide +kernel
/-- 'idx' where the byte is in the alphabet, as a natural number. -/
theorem hex_val (c : UInt8) (h : 0 ≤ idx hexD c) : ∃ n : Nat, n < 16 ∧ idx hexD c = (n : Int) ∧ hexC n = c := by
  rcases idx_hex c with h' | ⟨h0, h1, h2⟩
  · omega
  · exact ⟨(idx hexD c).toNat, by omega, by omega, h2⟩
theorem six_val (c : UInt8) (h : 0 ≤ idx sixD c) : ∃ n : Nat, n < 64 ∧ idx sixD c = (n : Int) ∧ sixC n = c := by
  rcases idx_six c with h' | ⟨h0, h1, h2⟩
  · omega
  · exact ⟨(idx sixD c).toNat, by omega, by omega, h2⟩
theorem ofNat_toNat (c : UInt8) : UInt8.ofNat c.toNat = c := UInt8.ofNat_toNat

/-! ### Bits -/
/-- The bits of v, most significant first, 'each' of them. -/
def bitsV (each v : Nat) : List Nat := (List.range each).map fun j => v / 2 ^ (each - 1 - j) % 2
def bitsL (l : List UInt8) : List Nat := l.flatMap fun c => bitsV 8 c.toNat
/-- The number that n bits from 'from' on represent; missing bits are 0. -/
def numN (b : List Nat) (p : Nat) : Nat → Nat
  | 0 => 0
  | n + 1 => 2 * numN b p n + b.getD (p + n) 0
theorem bitsV_length (e v : Nat) : (bitsV e v).length = e := by simp [bitsV]
theorem bitsL_length (l : List UInt8) : (bitsL l).length = 8 * l.length := by
  induction l with
  | nil => rfl
  | cons c l ih =>
    show (bitsV 8 c.toNat ++ bitsL l).length = _
    rw [List.length_append, ih, bitsV_length, List.length_cons]; omega
theorem bitsL_cons (c : UInt8) (l : List UInt8) : bitsL (c :: l) = bitsV 8 c.toNat ++ bitsL l := rfl
theorem bits8 (v : Nat) : bitsV 8 v = [v / 128 % 2, v / 64 % 2, v / 32 % 2, v / 16 % 2, v / 8 % 2, v / 4 % 2, v / 2 % 2, v / 1 % 2] := rfl
theorem bits6 (v : Nat) : bitsV 6 v = [v / 32 % 2, v / 16 % 2, v / 8 % 2, v / 4 % 2, v / 2 % 2, v / 1 % 2] := rfl
theorem bits4 (v : Nat) : bitsV 4 v = [v / 8 % 2, v / 4 % 2, v / 2 % 2, v / 1 % 2] := rfl
theorem num_shift (a b : List Nat) (p n : Nat) : numN (a ++ b) (a.length + p) n = numN b p n := by
  induction n with
  | zero => rfl
  | succ n ih =>
    simp only [numN, ih]
    congr 1
    simp only [List.getD_eq_getElem?_getD]
    rw [List.getElem?_append_right (by omega)]
    congr 2
    omega
theorem num4 (b : List Nat) (p : Nat) : numN b p 4 = 2 * (2 * (2 * (b.getD p 0) + b.getD (p + 1) 0) + b.getD (p + 2) 0) + b.getD (p + 3) 0 := by
  simp [numN]
theorem num6 (b : List Nat) (p : Nat) : numN b p 6 = 2 * (2 * (2 * (2 * (2 * (b.getD p 0) + b.getD (p + 1) 0) + b.getD (p + 2) 0) + b.getD (p + 3) 0) + b.getD (p + 4) 0) + b.getD (p + 5) 0 := by
  simp [numN]
theorem num8 (b : List Nat) (p : Nat) : numN b p 8 = 2 * (2 * (2 * (2 * (2 * (2 * (2 * (b.getD p 0) + b.getD (p + 1) 0) + b.getD (p + 2) 0) + b.getD (p + 3) 0) + b.getD (p + 4) 0) + b.getD (p + 5) 0) + b.getD (p + 6) 0) + b.getD (p + 7) 0 := by
  simp [numN]
/-- The characters for groups of n bits, m of them. -/
def chars (al : Nat → UInt8) (b : List Nat) (n m : Nat) : List UInt8 := (List.range m).map fun j => al (numN b (n * j) n)
theorem chars_succ (al : Nat → UInt8) (b : List Nat) (n m : Nat) : chars al b n (m + 1) = chars al b n m ++ [al (numN b (n * m) n)] := by
  simp [chars, List.range_succ]
theorem chars_append (al : Nat → UInt8) (a b : List Nat) (n q m : Nat) (h : a.length = n * q) : chars al (a ++ b) n (q + m) = chars al (a ++ b) n q ++ chars al b n m := by
  unfold chars
  rw [List.range_add, List.map_append, List.map_map]
  congr 1
  refine List.map_congr_left fun j _ => ?_
  show al (numN (a ++ b) (n * (q + j)) n) = _
  rw [Nat.mul_add, ← h, num_shift]

/-! ### Hexadecimal texts -/
def hexL (l : List UInt8) : List UInt8 := l.flatMap fun c => [hexC (c.toNat / 16), hexC (c.toNat % 16)]
theorem hexL_cons (c : UInt8) (l : List UInt8) : hexL (c :: l) = hexC (c.toNat / 16) :: hexC (c.toNat % 16) :: hexL l := rfl
theorem hexL_length (l : List UInt8) : (hexL l).length = 2 * l.length := by
  induction l with
  | nil => rfl
  | cons c l ih => rw [hexL_cons]; simp only [List.length_cons, ih]; omega
theorem hexL_append (a b : List UInt8) : hexL (a ++ b) = hexL a ++ hexL b := by simp [hexL]
theorem two_hex (v : Nat) (h : v < 256) (r : List Nat) : numN (bitsV 8 v ++ r) 0 4 = v / 16 ∧ numN (bitsV 8 v ++ r) 4 4 = v % 16 := by
  rw [bits8, num4, num4]
  simp only [List.cons_append, List.nil_append, List.getD_cons_zero, List.getD_cons_succ]
  omega
theorem hexL_bits (l : List UInt8) : chars hexC (bitsL l) 4 (2 * l.length) = hexL l := by
  induction l with
  | nil => rfl
  | cons c l ih =>
    have e : 2 * (c :: l).length = 2 + 2 * l.length := by simp only [List.length_cons]; omega
    rw [e, bitsL_cons, chars_append _ _ _ 4 2 _ (by rw [bitsV_length]), ih, hexL_cons]
    have := two_hex c.toNat c.toNat_lt (bitsL l)
    have e2 : ∀ b, chars hexC b 4 2 = [hexC (numN b 0 4), hexC (numN b 4 4)] := fun b => rfl
    rw [e2, this.1, this.2]
    rfl
/-- What 'unpack' collects. -/
def unbits (al : List UInt8) (each : Nat) (s : List UInt8) : List Nat := s.flatMap fun c => if idx al c < 0 then [] else bitsV each (idx al c).toNat
def unpack (al : List UInt8) (each : Nat) (s : List UInt8) : List UInt8 := chars UInt8.ofNat (unbits al each s) 8 ((unbits al each s).length / 8)
theorem unbits_cons (al : List UInt8) (each : Nat) (c : UInt8) (s : List UInt8) : unbits al each (c :: s) = (if idx al c < 0 then [] else bitsV each (idx al c).toNat) ++ unbits al each s := rfl
theorem two_bits4 (v : Nat) : bitsV 4 (v / 16) ++ bitsV 4 (v % 16) = bitsV 8 v := by
  rw [bits8, bits4, bits4]
  simp only [List.cons_append, List.nil_append, List.cons.injEq, and_true]
  omega
theorem unbits_hex (t : List UInt8) : unbits hexD 4 (hexL t) = bitsL t := by
  induction t with
  | nil => rfl
  | cons c t ih =>
    have hc := c.toNat_lt
    rw [hexL_cons, unbits_cons, unbits_cons, ih, idx_hexC _ (by omega), idx_hexC _ (by omega), bitsL_cons, if_neg (by omega), if_neg (by omega), Int.toNat_natCast, Int.toNat_natCast, ← two_bits4 c.toNat, List.append_assoc]
theorem one_byte (v : Nat) (h : v < 256) (r : List Nat) : numN (bitsV 8 v ++ r) 0 8 = v := by
  rw [bits8, num8]
  simp only [List.cons_append, List.nil_append, List.getD_cons_zero, List.getD_cons_succ]
  omega
theorem bytes_bits (t : List UInt8) (r : List Nat) : chars UInt8.ofNat (bitsL t ++ r) 8 t.length = t := by
  induction t with
  | nil => rfl
  | cons c t ih =>
    have e : (c :: t).length = 1 + t.length := by simp only [List.length_cons]; omega
    rw [e, bitsL_cons, List.append_assoc, chars_append _ _ _ 8 1 _ (by rw [bitsV_length]), ih]
    have e2 : ∀ b, chars UInt8.ofNat b 8 1 = [UInt8.ofNat (numN b 0 8)] := fun b => rfl
    rw [e2, one_byte _ c.toNat_lt, ofNat_toNat]
    rfl
theorem unpack_hex (t : List UInt8) : unpack hexD 4 (hexL t) = t := by
  unfold unpack
  rw [unbits_hex, bitsL_length, Nat.mul_div_cancel_left _ (by decide)]
  have := bytes_bits t []
  rwa [List.append_nil] at this
/-- The program's Unhex. -/
def unhexGo : List UInt8 → Option (List UInt8)
  | a :: b :: r => if idx hexD a < 0 ∨ idx hexD b < 0 then none else (unhexGo r).map (UInt8.ofNat (16 * idx hexD a + idx hexD b).toNat :: ·)
  | _ => some []
def unhexP (s : List UInt8) : List UInt8 × Int := if s.length % 2 ≠ 0 then ([], 3) else match unhexGo s with | some t => (t, 0) | none => ([], 3)
theorem unhexGo_hex (t : List UInt8) : unhexGo (hexL t) = some t := by
  induction t with
  | nil => rfl
  | cons c t ih =>
    have hc := c.toNat_lt
    rw [hexL_cons, unhexGo, ih, idx_hexC _ (by omega), idx_hexC _ (by omega), if_neg (by omega)]
    have e : (16 * ((c.toNat / 16 : Nat) : Int) + ((c.toNat % 16 : Nat) : Int)).toNat = c.toNat := by omega
    rw [e, ofNat_toNat]
    rfl
theorem unhexP_hex (t : List UInt8) : unhexP (hexL t) = (t, 0) := by
  unfold unhexP
  rw [if_neg (by rw [hexL_length]; omega), unhexGo_hex]
theorem hex_unhexGo : ∀ (n : Nat) (s : List UInt8) (t : List UInt8), s.length = 2 * n → unhexGo s = some t → hexL t = s
  | 0, s, t, hs, h => by
    obtain rfl : s = [] := List.eq_nil_of_length_eq_zero hs
    simp only [unhexGo, Option.some.injEq] at h
    subst h
    rfl
  | n + 1, [], t, hs, h => by simp at hs
  | n + 1, [a], t, hs, h => by simp at hs; omega
  | n + 1, a :: b :: r, t, hs, h => by
    rw [unhexGo] at h
    by_cases hc : idx hexD a < 0 ∨ idx hexD b < 0
    · rw [if_pos hc] at h; cases h
    · rw [if_neg hc] at h
      obtain ⟨u, hu, rfl⟩ := Option.map_eq_some_iff.1 h
      have hr := hex_unhexGo n r u (by simp only [List.length_cons] at hs; omega) hu
      obtain ⟨x, hx, ex, rfl⟩ := hex_val a (by omega)
      obtain ⟨y, hy, ey, rfl⟩ := hex_val b (by omega)
      rw [hexL_cons, hr, ex, ey]
      have e : (16 * (x : Int) + (y : Int)).toNat = 16 * x + y := by omega
      have e2 : (UInt8.ofNat (16 * x + y)).toNat = 16 * x + y := by
        rw [UInt8.toNat_ofNat']; omega
      rw [e, e2, show (16 * x + y) / 16 = x by omega, show (16 * x + y) % 16 = y by omega]
theorem hex_unhexP (s t : List UInt8) (h : unhexP s = (t, 0)) : hexL t = s := by
  unfold unhexP at h
  by_cases hs : s.length % 2 ≠ 0
  · rw [if_pos hs] at h; cases h
  · rw [if_neg hs] at h
    revert h
    cases hg : unhexGo s with
    | none => intro h; cases h
    | some u =>
      intro h
      obtain rfl : u = t := (Prod.mk.inj h).1
      exact hex_unhexGo (s.length / 2) s u (by omega) hg
theorem unhexP_form (s : List UInt8) : unhexP s = ([], 3) ∨ ∃ t, unhexP s = (t, 0) := by
  unfold unhexP
  split
  · exact .inl rfl
  · split
    · exact .inr ⟨_, rfl⟩
    · exact .inl rfl
/-- The law of Unhex: the program's answer is the reference's. -/
theorem unhex_law (s : List UInt8) : unhexP s = if hexL (unpack hexD 4 s) ≠ s then ([], 3) else (unpack hexD 4 s, 0) := by
  rcases unhexP_form s with h | ⟨t, h⟩
  · rw [h, if_pos]
    intro he
    have := unhexP_hex (unpack hexD 4 s)
    rw [he, h] at this
    exact absurd (show (3 : Int) = 0 from congrArg Prod.snd this) (by decide)
  · have he := hex_unhexP s t h
    have hu : unpack hexD 4 s = t := by rw [← he, unpack_hex]
    rw [h, hu, if_neg (fun hn => hn he)]
end Arm
