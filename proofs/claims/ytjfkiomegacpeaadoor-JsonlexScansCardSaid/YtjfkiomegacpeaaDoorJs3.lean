/-
  The plain law of jsonlex, fourth part: strings that are written with plain characters and escapes are read back. No program stands in it.
-/
import Derived.Test.YtjfkiomegacpeaaDoorJs2
namespace Jsn
def hexd (up : Bool) (d : Nat) : UInt8 := if d < 10 then UInt8.ofNat (48 + d) else if up then UInt8.ofNat (55 + d) else UInt8.ofNat (87 + d)
def hex4 (up : Bool) (n : Nat) : List UInt8 := [hexd up (n / 4096 % 16), hexd up (n / 256 % 16), hexd up (n / 16 % 16), hexd up (n % 16)]
theorem digit_hexd : ∀ up : Bool, ∀ d, d < 16 → digit (hexd up d) = some d := by decide
theorem hexNum_hex4 (up : Bool) (n : Nat) (z : List UInt8) (h : n < 65536) : hexNum 4 0 (hex4 up n ++ z) = some n := by
  simp only [hex4, List.cons_append, List.nil_append, hexNum, digit_hexd _ _ (Nat.mod_lt _ (show 0 < 16 by decide)), Option.some.injEq]
  omega
theorem unit_hex4 (up : Bool) (n : Nat) (z : List UInt8) (h : n < 65536) : unit (92 :: 117 :: (hex4 up n ++ z)) = some n := hexNum_hex4 up n z h
def scalar (r : Nat) : Prop := (r < 55296 ∨ 57343 < r) ∧ r ≤ 1114111
def plain (r : Nat) : Bool := decide (32 ≤ r) && r != 34 && r != 92
/-- A scalar as it is written. -/
def wr (r how : Nat) : List UInt8 :=
  if how % 3 = 0 ∧ plain r = true then enc r
  else if how % 3 = 1 ∧ r = 10 then [92, 110]
  else if how % 3 = 1 ∧ (r = 34 ∨ r = 92 ∨ r = 47) then 92 :: enc r
  else if 65536 ≤ r then [92, 117] ++ (hex4 (how % 2 == 0) (55296 + (r - 65536) / 1024) ++ ([92, 117] ++ hex4 (how % 2 == 1) (56320 + (r - 65536) % 1024)))
  else [92, 117] ++ hex4 (how % 2 == 0) r
theorem escape_uni (up : Bool) (n : Nat) (z : List UInt8) (h : n < 65536) (h2 : n < 55296 ∨ 57343 < n) : escape (92 :: 117 :: (hex4 up n ++ z)) = .ok n 6 := by
  unfold escape
  rw [unit_hex4 up n z h]
  simp only
  rw [if_pos h2]
theorem escape_two (u1 u2 : Bool) (x y : Nat) (z : List UInt8) (hx : 55296 ≤ x) (hx2 : x ≤ 56319) (hy : 56320 ≤ y) (hy2 : y ≤ 57343) :
    escape (92 :: 117 :: (hex4 u1 x ++ (92 :: 117 :: (hex4 u2 y ++ z)))) = .ok (65536 + (x - 55296) * 1024 + (y - 56320)) 12 := by
  unfold escape
  rw [unit_hex4 u1 _ _ (by omega)]
  simp only
  rw [if_neg (by omega)]
  have hd : (92 :: 117 :: (hex4 u1 x ++ (92 :: 117 :: (hex4 u2 y ++ z)))).drop 6 = 92 :: 117 :: (hex4 u2 y ++ z) := rfl
  rw [hd, unit_hex4 u2 _ _ (by omega)]
  simp only
  rw [if_neg (by omega)]
theorem escape_pair (u1 u2 : Bool) (r : Nat) (z : List UInt8) (h1 : 65536 ≤ r) (h2 : r ≤ 1114111) :
    escape (92 :: 117 :: (hex4 u1 (55296 + (r - 65536) / 1024) ++ (92 :: 117 :: (hex4 u2 (56320 + (r - 65536) % 1024) ++ z)))) = .ok r 12 := by
  obtain ⟨x, hx⟩ : ∃ x, x = 55296 + (r - 65536) / 1024 := ⟨_, rfl⟩
  obtain ⟨y, hy⟩ : ∃ y, y = 56320 + (r - 65536) % 1024 := ⟨_, rfl⟩
  rw [← hx, ← hy, escape_two u1 u2 x y z (by omega) (by omega) (by omega) (by omega)]
  rw [show 65536 + (x - 55296) * 1024 + (y - 56320) = r by omega]
theorem quo_esc (f g a : Nat) (out l : List UInt8) (x n : Nat) (he : escape (92 :: l) = .ok x n) (hf : (92 :: l).length ≤ f) (hg : ((92 :: l).drop n).length ≤ g) :
    quo f a out (92 :: l) = quo g (a + n) (out ++ enc x) ((92 :: l).drop n) := by
  obtain ⟨f, rfl⟩ : ∃ k, f = k + 1 := ⟨f - 1, by simp at hf; omega⟩
  have hb := escape_bd (92 :: l) rfl x n he
  conv => lhs; unfold quo
  rw [if_neg (by decide), if_neg (by decide), if_pos (by decide), he]
  simp only
  exact quo_fuel _ _ _ _ _ (by rw [List.length_drop]; omega) hg
theorem quo_raw : ∀ (l : List UInt8) (f g a : Nat) (out z : List UInt8), (∀ c ∈ l, c ≠ 34 ∧ ¬ c < 32 ∧ c ≠ 92) → (l ++ z).length ≤ f → z.length ≤ g →
    quo f a out (l ++ z) = quo g (a + l.length) (out ++ l) z
  | [], f, g, a, out, z, _, hf, hg => by simpa using quo_fuel f g a out z (by simpa using hf) hg
  | c :: l, f, g, a, out, z, hc, hf, hg => by
    obtain ⟨f, rfl⟩ : ∃ k, f = k + 1 := ⟨f - 1, by simp at hf; omega⟩
    obtain ⟨c1, c2, c3⟩ := hc c List.mem_cons_self
    rw [List.cons_append]
    conv => lhs; unfold quo
    rw [if_neg (by simpa using c1), if_neg c2, if_neg (by simpa using c3),
      quo_raw l f g (a + 1) (out ++ [c]) z (fun d hd => hc d (List.mem_cons_of_mem _ hd)) (by simpa using hf) hg]
    rw [List.append_assoc, List.length_cons, show a + 1 + l.length = a + (l.length + 1) by omega]
    rfl
theorem enc_ascii (r : Nat) (h : r < 128) : enc r = [UInt8.ofNat r] := by unfold enc; rw [if_pos h]
theorem ofNat_ge (n : Nat) (h1 : 128 ≤ n) (h2 : n < 256) : UInt8.ofNat n ≠ 34 ∧ ¬ UInt8.ofNat n < 32 ∧ UInt8.ofNat n ≠ 92 := by
  have e : (UInt8.ofNat n).toNat = n := by simp [UInt8.toNat_ofNat', Nat.mod_eq_of_lt h2]
  refine ⟨fun h => ?_, fun h => ?_, fun h => ?_⟩
  · rw [h] at e; have : (34 : UInt8).toNat = 34 := rfl; omega
  · rw [UInt8.lt_iff_toNat_lt] at h; have : (32 : UInt8).toNat = 32 := rfl; omega
  · rw [h] at e; have : (92 : UInt8).toNat = 92 := rfl; omega
theorem enc_plain (r : Nat) (h : plain r = true) (h2 : r ≤ 1114111) : ∀ c ∈ enc r, c ≠ 34 ∧ ¬ c < 32 ∧ c ≠ 92 := by
  intro c hc
  unfold enc at hc
  split at hc
  · rename_i hlt
    simp only [List.mem_singleton] at hc
    subst hc
    simp only [plain, Bool.and_eq_true, decide_eq_true_eq, bne_iff_ne, ne_eq] at h
    have e : (UInt8.ofNat r).toNat = r := by simp [UInt8.toNat_ofNat', Nat.mod_eq_of_lt (show r < 256 by omega)]
    refine ⟨fun h => ?_, fun h => ?_, fun h => ?_⟩
    · rw [h] at e; have : (34 : UInt8).toNat = 34 := rfl; omega
    · rw [UInt8.lt_iff_toNat_lt] at h; have : (32 : UInt8).toNat = 32 := rfl; omega
    · rw [h] at e; have : (92 : UInt8).toNat = 92 := rfl; omega
  · split at hc
    · simp only [List.mem_cons, List.not_mem_nil, or_false] at hc
      rcases hc with rfl | rfl <;> exact ofNat_ge _ (by omega) (by omega)
    · split at hc
      · simp only [List.mem_cons, List.not_mem_nil, or_false] at hc
        rcases hc with rfl | rfl | rfl <;> exact ofNat_ge _ (by omega) (by omega)
      · simp only [List.mem_cons, List.not_mem_nil, or_false] at hc
        rcases hc with rfl | rfl | rfl | rfl <;> exact ofNat_ge _ (by omega) (by omega)
theorem quo_wr (r how : Nat) (hr : scalar r) (f g a : Nat) (out z : List UInt8) (hf : (wr r how ++ z).length ≤ f) (hg : z.length ≤ g) :
    quo f a out (wr r how ++ z) = quo g (a + (wr r how).length) (out ++ enc r) z := by
  obtain ⟨h1, h2⟩ := hr
  unfold wr at hf ⊢
  split at hf
  · rename_i hc
    rw [if_pos hc]
    exact quo_raw _ f g a out z (enc_plain r hc.2 h2) hf hg
  · rename_i hc1
    rw [if_neg hc1]
    split at hf
    · rename_i hc
      rw [if_pos hc]
      obtain ⟨_, rfl⟩ := hc
      exact quo_esc f g a out (110 :: z) 10 2 rfl (by simpa using hf) (by simpa using hg)
    · rename_i hc2
      rw [if_neg hc2]
      split at hf
      · rename_i hc
        rw [if_pos hc]
        have hen : enc r = [UInt8.ofNat r] := enc_ascii r (by omega)
        rw [hen] at hf ⊢
        have he : escape (92 :: UInt8.ofNat r :: z) = .ok r 2 := by
          rcases hc.2 with rfl | rfl | rfl <;> rfl
        have := quo_esc f g a out (UInt8.ofNat r :: z) r 2 he (by simpa using hf) (by simpa using hg)
        rw [hen] at this
        exact this
      · rename_i hc3
        rw [if_neg hc3]
        split at hf
        · rename_i hc
          rw [if_pos hc]
          have he := escape_pair (how % 2 == 0) (how % 2 == 1) r z hc h2
          exact quo_esc f g a out _ r 12 (by simpa [List.append_assoc] using he) (by simpa [List.append_assoc] using hf) (by simpa [List.append_assoc, hex4] using hg) |>.trans (by simp [hex4])
        · rename_i hc
          rw [if_neg hc]
          have he := escape_uni (how % 2 == 0) r z (by omega) h1
          exact quo_esc f g a out _ r 6 (by simpa using he) (by simpa using hf) (by simpa [hex4] using hg) |>.trans (by simp [hex4])
def wrs (L : List (Nat × Nat)) : List UInt8 := L.flatMap fun x => wr x.1 x.2
def encs (L : List (Nat × Nat)) : List UInt8 := L.flatMap fun x => enc x.1
theorem quo_wrs : ∀ (L : List (Nat × Nat)) (f a : Nat) (out : List UInt8), (∀ x ∈ L, scalar x.1) → (wrs L ++ [34]).length ≤ f →
    quo f a out (wrs L ++ [34]) = .ok (out ++ encs L) (a + (wrs L).length + 1)
  | [], f, a, out, _, hf => by
    obtain ⟨f, rfl⟩ : ∃ k, f = k + 1 := ⟨f - 1, by simp [wrs] at hf; omega⟩
    simp [wrs, encs, quo]
  | x :: L, f, a, out, hx, hf => by
    have e1 : wrs (x :: L) = wr x.1 x.2 ++ wrs L := List.flatMap_cons
    have e2 : encs (x :: L) = enc x.1 ++ encs L := List.flatMap_cons
    rw [e1, e2, List.append_assoc]
    rw [e1, List.append_assoc] at hf
    rw [quo_wr x.1 x.2 (hx x List.mem_cons_self) f (wrs L ++ [34]).length a out _ hf (Nat.le_refl _),
      quo_wrs L _ _ _ (fun y hy => hx y (List.mem_cons_of_mem _ hy)) (Nat.le_refl _)]
    rw [List.append_assoc, List.length_append]
    congr 1
    omega
theorem scan_wrs (L : List (Nat × Nat)) (hL : ∀ x ∈ L, scalar x.1) : scan (34 :: (wrs L ++ [34])) = .ok [⟨2, 0, (wrs L).length + 2, encs L⟩] [] := by
  have hq := quo_wrs L (wrs L ++ [34]).length.succ 1 [] hL (Nat.le_succ _)
  have ht : token (34 :: (wrs L ++ [34])) = .ok 2 ((wrs L).length + 2) (encs L) := by
    unfold token
    rw [List.headD_cons, if_neg (by decide), if_pos (by decide)]
    show qtok (quo (34 :: (wrs L ++ [34])).length 1 [] (wrs L ++ [34])) = _
    rw [List.length_cons, hq, List.nil_append]
    show Tok.ok 2 (1 + (wrs L).length + 1) (encs L) = _
    congr 1
    omega
  have hc : comment (34 :: (wrs L ++ [34])) = some 0 := by
    cases h : wrs L ++ [34] with
    | nil => simp at h
    | cons b r => exact comment_no 34 b r (by rintro ⟨h, _⟩; exact absurd h (by decide))
  have hs : step (34 :: (wrs L ++ [34])) = .tok 2 ((wrs L).length + 2) (encs L) := by
    unfold step
    rw [List.headD_cons, if_neg (by decide), hc]
    simp only
    rw [ht]
    rfl
  rw [scan_cons, hs]
  simp only
  rw [List.drop_of_length_le (by simp), scan_nil]
  rfl
end Jsn
