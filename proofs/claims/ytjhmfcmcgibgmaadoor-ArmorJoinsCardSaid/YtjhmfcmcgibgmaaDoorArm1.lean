/-
  The plain law of armor, Base64.
-/
import Derived.Test.YtjhmfcmcgibgmaaDoorArm0
namespace Arm
/-- Base64, three bytes at a time. -/
def b64 : List UInt8 → List UInt8
  | [] => []
  | [a] => [sixC (a.toNat / 4), sixC (a.toNat % 4 * 16), 61, 61]
  | [a, b] => [sixC (a.toNat / 4), sixC (a.toNat % 4 * 16 + b.toNat / 16), sixC (b.toNat % 16 * 4), 61]
  | a :: b :: c :: r => sixC (a.toNat / 4) :: sixC (a.toNat % 4 * 16 + b.toNat / 16) :: sixC (b.toNat % 16 * 4 + c.toNat / 64) :: sixC (c.toNat % 64) :: b64 r
/-- Lists by threes. -/
theorem threes {P : List UInt8 → Prop} (h0 : P []) (h1 : ∀ a, P [a]) (h2 : ∀ a b, P [a, b]) (h3 : ∀ a b c r, P r → P (a :: b :: c :: r)) : ∀ l, P l
  | [] => h0
  | [a] => h1 a
  | [a, b] => h2 a b
  | a :: b :: c :: r => h3 a b c r (threes h0 h1 h2 h3 r)
theorem b64_length (l : List UInt8) : (b64 l).length = (l.length + 2) / 3 * 4 := by
  induction l using threes with
  | h0 => simp [b64]
  | h1 a => simp [b64]
  | h2 a b => simp [b64]
  | h3 a b c r ih => simp only [b64, List.length_cons, ih]; omega
theorem b64_append (a b : List UInt8) : a.length % 3 = 0 → b64 (a ++ b) = b64 a ++ b64 b := by
  induction a using threes with
  | h0 => intro _; rfl
  | h1 a => intro h; simp at h
  | h2 a b => intro h; simp at h
  | h3 a b c r ih =>
    intro h
    have h' : r.length % 3 = 0 := by simp only [List.length_cons] at h; omega
    show b64 (a :: b :: c :: (r ++ _)) = _
    simp only [b64, List.cons_append, ih h']
theorem four_six (x y z : Nat) (hx : x < 256) (hy : y < 256) (hz : z < 256) (r : List Nat) :
    numN (bitsV 8 x ++ (bitsV 8 y ++ (bitsV 8 z ++ r))) 0 6 = x / 4 ∧ numN (bitsV 8 x ++ (bitsV 8 y ++ (bitsV 8 z ++ r))) 6 6 = x % 4 * 16 + y / 16 ∧
    numN (bitsV 8 x ++ (bitsV 8 y ++ (bitsV 8 z ++ r))) 12 6 = y % 16 * 4 + z / 64 ∧ numN (bitsV 8 x ++ (bitsV 8 y ++ (bitsV 8 z ++ r))) 18 6 = z % 64 := by
  rw [bits8, bits8, bits8, num6, num6, num6, num6]
  simp only [List.cons_append, List.nil_append, List.getD_cons_zero, List.getD_cons_succ]
  omega
theorem six_two (x y : Nat) (hx : x < 256) (hy : y < 256) :
    numN (bitsV 8 x ++ bitsV 8 y) 0 6 = x / 4 ∧ numN (bitsV 8 x ++ bitsV 8 y) 6 6 = x % 4 * 16 + y / 16 ∧ numN (bitsV 8 x ++ bitsV 8 y) 12 6 = y % 16 * 4 := by
  rw [bits8, bits8, num6, num6, num6]
  simp only [List.cons_append, List.nil_append, List.getD_cons_zero, List.getD_cons_succ, List.getD_nil]
  omega
theorem six_one (x : Nat) (hx : x < 256) : numN (bitsV 8 x) 0 6 = x / 4 ∧ numN (bitsV 8 x) 6 6 = x % 4 * 16 := by
  rw [bits8, num6, num6]
  simp only [List.getD_cons_zero, List.getD_cons_succ, List.getD_nil]
  omega
/-- The reference's Base64: the characters, padded. -/
def b64R (l : List UInt8) : List UInt8 :=
  chars sixC (bitsL l) 6 ((8 * l.length + 5) / 6) ++ List.replicate ((4 - (8 * l.length + 5) / 6 % 4) % 4) 61
theorem b64R_eq (l : List UInt8) : b64R l = b64 l := by
  induction l using threes with
  | h0 => rfl
  | h1 a =>
    obtain ⟨e1, e2⟩ := six_one a.toNat a.toNat_lt
    have h1 : (8 * [a].length + 5) / 6 = 2 := by simp
    unfold b64R
    rw [h1, b64, bitsL_cons]
    show [sixC (numN (bitsV 8 a.toNat ++ []) 0 6), sixC (numN (bitsV 8 a.toNat ++ []) 6 6)] ++ [61, 61] = _
    rw [List.append_nil, e1, e2]
    rfl
  | h2 a b =>
    obtain ⟨e1, e2, e3⟩ := six_two a.toNat b.toNat a.toNat_lt b.toNat_lt
    have h1 : (8 * [a, b].length + 5) / 6 = 3 := by simp
    unfold b64R
    rw [h1, b64, bitsL_cons, bitsL_cons]
    show [sixC (numN (bitsV 8 a.toNat ++ (bitsV 8 b.toNat ++ [])) 0 6), sixC (numN (bitsV 8 a.toNat ++ (bitsV 8 b.toNat ++ [])) 6 6), sixC (numN (bitsV 8 a.toNat ++ (bitsV 8 b.toNat ++ [])) 12 6)] ++ [61] = _
    rw [List.append_nil, e1, e2, e3]
    rfl
  | h3 a b c r ih =>
    obtain ⟨e1, e2, e3, e4⟩ := four_six a.toNat b.toNat c.toNat a.toNat_lt b.toNat_lt c.toNat_lt (bitsL r)
    unfold b64R at ih ⊢
    have h1 : (8 * (a :: b :: c :: r).length + 5) / 6 = 4 + (8 * r.length + 5) / 6 := by simp only [List.length_cons]; omega
    have h2 : (4 - (4 + (8 * r.length + 5) / 6) % 4) % 4 = (4 - (8 * r.length + 5) / 6 % 4) % 4 := by omega
    rw [h1, h2]
    have h3 : bitsL (a :: b :: c :: r) = (bitsV 8 a.toNat ++ bitsV 8 b.toNat ++ bitsV 8 c.toNat) ++ bitsL r := by simp [bitsL_cons]
    rw [h3, chars_append _ _ _ 6 4 _ (by simp [bitsV_length]), List.append_assoc, ih]
    have e5 : ∀ q, chars sixC q 6 4 = [sixC (numN q 0 6), sixC (numN q 6 6), sixC (numN q 12 6), sixC (numN q 18 6)] := fun q => rfl
    rw [e5, List.append_assoc, List.append_assoc, e1, e2, e3, e4]
    rfl
/-! ### Unbase64 -/
/-- A step: the bits that are left, how many they are, what has come out. -/
def unStep (st : Nat × Nat × List UInt8) (x : Nat) : Nat × Nat × List UInt8 :=
  if 8 ≤ st.2.1 + 6 then ((st.1 * 64 + x) % 2 ^ (st.2.1 + 6 - 8), st.2.1 + 6 - 8, st.2.2 ++ [UInt8.ofNat ((st.1 * 64 + x) / 2 ^ (st.2.1 + 6 - 8))])
  else (st.1 * 64 + x, st.2.1 + 6, st.2.2)
def unFold (st : Nat × Nat × List UInt8) : List UInt8 → Option (Nat × Nat × List UInt8)
  | [] => some st
  | c :: r => if idx sixD c < 0 then none else unFold (unStep st (idx sixD c).toNat) r
theorem unFold_append (st : Nat × Nat × List UInt8) (a b : List UInt8) : unFold st (a ++ b) = (unFold st a).bind fun s => unFold s b := by
  induction a generalizing st with
  | nil => rfl
  | cons c a ih =>
    simp only [List.cons_append, unFold]
    split
    · rfl
    · exact ih _
/-- The text without the padding at its end. -/
def trimP (s : List UInt8) : List UInt8 := (s.reverse.dropWhile (· == 61)).reverse
def unb64P (s : List UInt8) : List UInt8 × Int :=
  if s.length % 4 ≠ 0 then ([], 3) else
  if 2 < s.length - (trimP s).length then ([], 3) else
  match unFold (0, 0, []) (trimP s) with
  | none => ([], 3)
  | some st => if st.1 ≠ 0 then ([], 3) else (st.2.2, 0)
theorem takeWhile_pad (l : List UInt8) : ∀ x ∈ l.takeWhile (· == 61), x = (61 : UInt8) := by
  induction l with
  | nil => intro x hx; simp at hx
  | cons a l ih =>
    intro x hx
    rw [List.takeWhile_cons] at hx
    split at hx
    · rename_i h
      rcases List.mem_cons.1 hx with rfl | hx
      · simpa using h
      · exact ih x hx
    · simp at hx
theorem trimP_split (s : List UInt8) : s = trimP s ++ List.replicate (s.length - (trimP s).length) 61 := by
  have h := List.takeWhile_append_dropWhile (p := (· == (61 : UInt8))) (l := s.reverse)
  have h2 : s = (s.reverse.dropWhile (· == 61)).reverse ++ (s.reverse.takeWhile (· == 61)).reverse := by
    rw [← List.reverse_append, h, List.reverse_reverse]
  have h3 : ∀ x ∈ (s.reverse.takeWhile (· == 61)).reverse, x = (61 : UInt8) := by
    intro x hx
    rw [List.mem_reverse] at hx
    exact takeWhile_pad _ x hx
  have h4 := List.eq_replicate_of_mem h3
  have h5 : ((s.reverse.takeWhile (· == 61)).reverse).length = s.length - (trimP s).length := by
    have := congrArg List.length h2
    rw [List.length_append] at this
    unfold trimP
    omega
  rw [h5] at h4
  rw [← h4]
  exact h2
theorem trimP_pad (t : List UInt8) (k : Nat) (h : t = [] ∨ ∃ u c, t = u ++ [c] ∧ c ≠ 61) : trimP (t ++ List.replicate k 61) = t := by
  unfold trimP
  rw [List.reverse_append, List.reverse_replicate, List.dropWhile_append_of_pos (by simp)]
  rcases h with rfl | ⟨u, c, rfl, hc⟩
  · rfl
  · rw [List.reverse_append]
    simp [hc]
/-- Base64 without its padding. -/
def b64c : List UInt8 → List UInt8
  | [] => []
  | [a] => [sixC (a.toNat / 4), sixC (a.toNat % 4 * 16)]
  | [a, b] => [sixC (a.toNat / 4), sixC (a.toNat % 4 * 16 + b.toNat / 16), sixC (b.toNat % 16 * 4)]
  | a :: b :: c :: r => sixC (a.toNat / 4) :: sixC (a.toNat % 4 * 16 + b.toNat / 16) :: sixC (b.toNat % 16 * 4 + c.toNat / 64) :: sixC (c.toNat % 64) :: b64c r
def padN (n : Nat) : Nat := (3 - n % 3) % 3
theorem b64_split (l : List UInt8) : b64 l = b64c l ++ List.replicate (padN l.length) 61 := by
  induction l using threes with
  | h0 => rfl
  | h1 a => rfl
  | h2 a b => rfl
  | h3 a b c r ih =>
    have : padN (a :: b :: c :: r).length = padN r.length := by unfold padN; simp only [List.length_cons]; omega
    rw [this]
    simp only [b64, b64c, ih, List.cons_append]
theorem b64c_last (l : List UInt8) : b64c l = [] ∨ ∃ u c, b64c l = u ++ [c] ∧ c ≠ 61 := by
  induction l using threes with
  | h0 => exact .inl rfl
  | h1 a => exact .inr ⟨[_], _, rfl, sixC_ne_pad _ (by have := a.toNat_lt; omega)⟩
  | h2 a b => exact .inr ⟨[_, _], _, rfl, sixC_ne_pad _ (by have := b.toNat_lt; omega)⟩
  | h3 a b c r ih =>
    refine .inr ?_
    rcases ih with h | ⟨u, x, h, hx⟩
    · exact ⟨[_, _, _], _, by simp only [b64c, h]; rfl, sixC_ne_pad _ (by omega)⟩
    · exact ⟨_ :: _ :: _ :: _ :: u, x, by simp only [b64c, h]; rfl, hx⟩
theorem trimP_b64 (l : List UInt8) : trimP (b64 l) = b64c l := by
  rw [b64_split, trimP_pad _ _ (b64c_last l)]
theorem unFold_six (st : Nat × Nat × List UInt8) (n : Nat) (h : n < 64) (r : List UInt8) : unFold st (sixC n :: r) = unFold (unStep st n) r := by
  rw [unFold, idx_sixC n h, if_neg (by omega), Int.toNat_natCast]
theorem step0 (o : List UInt8) (x : Nat) : unStep (0, 0, o) x = (x, 6, o) := by simp [unStep]
theorem step6 (v x : Nat) (o : List UInt8) : unStep (v, 6, o) x = ((v * 64 + x) % 16, 4, o ++ [UInt8.ofNat ((v * 64 + x) / 16)]) := by simp [unStep]
theorem step4 (v x : Nat) (o : List UInt8) : unStep (v, 4, o) x = ((v * 64 + x) % 4, 2, o ++ [UInt8.ofNat ((v * 64 + x) / 4)]) := by simp [unStep]
theorem step2 (v x : Nat) (o : List UInt8) : unStep (v, 2, o) x = (0, 0, o ++ [UInt8.ofNat (v * 64 + x)]) := by simp [unStep]; omega
theorem byte_eq (n : Nat) (c : UInt8) (h : n = c.toNat) : UInt8.ofNat n = c := by rw [h, ofNat_toNat]
theorem unFold_b64c (l : List UInt8) (o : List UInt8) : ∃ k, unFold (0, 0, o) (b64c l) = some (0, k, o ++ l) := by
  induction l using threes generalizing o with
  | h0 => exact ⟨0, by simp [b64c, unFold]⟩
  | h1 a =>
    have ha := a.toNat_lt
    refine ⟨4, ?_⟩
    rw [b64c, unFold_six _ _ (by omega), unFold_six _ _ (by omega), step0, step6, unFold, byte_eq _ a (by omega), show (a.toNat / 4 * 64 + a.toNat % 4 * 16) % 16 = 0 by omega]
  | h2 a b =>
    have ha := a.toNat_lt
    have hb := b.toNat_lt
    refine ⟨2, ?_⟩
    rw [b64c, unFold_six _ _ (by omega), unFold_six _ _ (by omega), unFold_six _ _ (by omega), step0, step6, step4, unFold, byte_eq _ a (by omega), byte_eq _ b (by omega),
      show ((a.toNat / 4 * 64 + (a.toNat % 4 * 16 + b.toNat / 16)) % 16 * 64 + b.toNat % 16 * 4) % 4 = 0 by omega]
    simp
  | h3 a b c r ih =>
    have ha := a.toNat_lt
    have hb := b.toNat_lt
    have hc := c.toNat_lt
    obtain ⟨k, hk⟩ := ih (o ++ [a] ++ [b] ++ [c])
    refine ⟨k, ?_⟩
    rw [b64c, unFold_six _ _ (by omega), unFold_six _ _ (by omega), unFold_six _ _ (by omega), unFold_six _ _ (by omega), step0, step6, step4, step2, byte_eq _ a (by omega), byte_eq _ b (by omega),
      byte_eq _ c (by omega), hk]
    simp
theorem unb64P_b64 (l : List UInt8) : unb64P (b64 l) = (l, 0) := by
  unfold unb64P
  have hl := b64_length l
  have hs := congrArg List.length (b64_split l)
  rw [List.length_append, List.length_replicate] at hs
  rw [trimP_b64, if_neg (by omega), if_neg (by unfold padN at hs; omega)]
  obtain ⟨k, hk⟩ := unFold_b64c l []
  rw [hk]
  simp
/-- Lists by fours. -/
theorem fours {P : List UInt8 → Prop} (h0 : P []) (h1 : ∀ a, P [a]) (h2 : ∀ a b, P [a, b]) (h3 : ∀ a b c, P [a, b, c]) (h4 : ∀ a b c d r, P r → P (a :: b :: c :: d :: r)) : ∀ l, P l
  | [] => h0
  | [a] => h1 a
  | [a, b] => h2 a b
  | [a, b, c] => h3 a b c
  | a :: b :: c :: d :: r => h4 a b c d r (fours h0 h1 h2 h3 h4 r)
theorem unFold_val {st : Nat × Nat × List UInt8} {c : UInt8} {r : List UInt8} {x : Nat × Nat × List UInt8} (h : unFold st (c :: r) = some x) : ∃ n, n < 64 ∧ sixC n = c ∧ unFold (unStep st n) r = some x := by
  rw [unFold] at h
  by_cases hc : idx sixD c < 0
  · rw [if_pos hc] at h; cases h
  · rw [if_neg hc] at h
    obtain ⟨n, hn, e, rfl⟩ := six_val c (by omega)
    rw [e, Int.toNat_natCast] at h
    exact ⟨n, hn, rfl, h⟩
theorem ofNat_lt (n : Nat) (h : n < 256) : (UInt8.ofNat n).toNat = n := by rw [UInt8.toNat_ofNat']; omega
/-- What is decoded, encoded again without its padding, is the text. -/
theorem b64c_unFold (t : List UInt8) (o : List UInt8) (k : Nat) (out : List UInt8) (ht : t.length % 4 ≠ 1) (h : unFold (0, 0, o) t = some (0, k, out)) : ∃ l, out = o ++ l ∧ b64c l = t := by
  induction t using fours generalizing o with
  | h0 => simp only [unFold, Option.some.injEq, Prod.mk.injEq] at h; exact ⟨[], by simp [h.2.2], rfl⟩
  | h1 a => exact absurd rfl ht
  | h2 a b =>
    obtain ⟨x, hx, rfl, g1⟩ := unFold_val h
    obtain ⟨y, hy, rfl, g2⟩ := unFold_val g1
    rw [step0, step6, unFold] at g2
    simp only [Option.some.injEq, Prod.mk.injEq] at g2
    obtain ⟨h1, _, rfl⟩ := g2
    refine ⟨[_], rfl, ?_⟩
    rw [b64c, ofNat_lt _ (by omega)]
    rw [show (x * 64 + y) / 16 / 4 = x by omega, show (x * 64 + y) / 16 % 4 * 16 = y by omega]
  | h3 a b c =>
    obtain ⟨x, hx, rfl, g1⟩ := unFold_val h
    obtain ⟨y, hy, rfl, g2⟩ := unFold_val g1
    obtain ⟨z, hz, rfl, g3⟩ := unFold_val g2
    rw [step0, step6, step4, unFold] at g3
    simp only [Option.some.injEq, Prod.mk.injEq] at g3
    obtain ⟨h1, _, rfl⟩ := g3
    refine ⟨[_, _], by rw [List.append_assoc]; rfl, ?_⟩
    rw [b64c, ofNat_lt _ (by omega), ofNat_lt _ (by omega)]
    rw [show (x * 64 + y) / 16 / 4 = x by omega, show (x * 64 + y) / 16 % 4 * 16 + ((x * 64 + y) % 16 * 64 + z) / 4 / 16 = y by omega, show ((x * 64 + y) % 16 * 64 + z) / 4 % 16 * 4 = z by omega]
  | h4 a b c d r ih =>
    obtain ⟨x, hx, rfl, g1⟩ := unFold_val h
    obtain ⟨y, hy, rfl, g2⟩ := unFold_val g1
    obtain ⟨z, hz, rfl, g3⟩ := unFold_val g2
    obtain ⟨u, hu, rfl, g4⟩ := unFold_val g3
    rw [step0, step6, step4, step2] at g4
    obtain ⟨l, rfl, hl⟩ := ih _ (by simp only [List.length_cons] at ht; omega) g4
    refine ⟨_ :: _ :: _ :: l, by simp only [List.append_assoc]; rfl, ?_⟩
    rw [b64c, hl, ofNat_lt _ (by omega), ofNat_lt _ (by omega), ofNat_lt _ (by omega)]
    rw [show (x * 64 + y) / 16 / 4 = x by omega, show (x * 64 + y) / 16 % 4 * 16 + ((x * 64 + y) % 16 * 64 + z) / 4 / 16 = y by omega,
      show ((x * 64 + y) % 16 * 64 + z) / 4 % 16 * 4 + (((x * 64 + y) % 16 * 64 + z) % 4 * 64 + u) / 64 = z by omega, show (((x * 64 + y) % 16 * 64 + z) % 4 * 64 + u) % 64 = u by omega]
theorem b64c_length (l : List UInt8) : (b64c l).length + padN l.length = (l.length + 2) / 3 * 4 := by
  have := congrArg List.length (b64_split l)
  rw [List.length_append, List.length_replicate, b64_length] at this
  exact this.symm
theorem b64_unb64P (s t : List UInt8) (h : unb64P s = (t, 0)) : b64 t = s := by
  unfold unb64P at h
  by_cases h1 : s.length % 4 ≠ 0
  · rw [if_pos h1] at h; exact absurd (show (3 : Int) = 0 from congrArg Prod.snd h) (by decide)
  rw [if_neg h1] at h
  by_cases h2 : 2 < s.length - (trimP s).length
  · rw [if_pos h2] at h; exact absurd (show (3 : Int) = 0 from congrArg Prod.snd h) (by decide)
  rw [if_neg h2] at h
  cases hf : unFold (0, 0, []) (trimP s) with
  | none => rw [hf] at h; exact absurd (show (3 : Int) = 0 from congrArg Prod.snd h) (by decide)
  | some st =>
    rw [hf] at h
    obtain ⟨v, k, out⟩ := st
    by_cases h3 : v ≠ 0
    · simp only [if_pos h3] at h; exact absurd (show (3 : Int) = 0 from congrArg Prod.snd h) (by decide)
    · simp only [if_neg h3, Prod.mk.injEq, and_true] at h
      subst h
      have hv : v = 0 := by omega
      subst hv
      have hs := trimP_split s
      have hlen := congrArg List.length hs
      rw [List.length_append, List.length_replicate] at hlen
      obtain ⟨l, hl, hb⟩ := b64c_unFold (trimP s) [] k out (by omega) hf
      rw [List.nil_append] at hl
      subst hl
      rw [b64_split, hb]
      have hc := b64c_length out
      rw [hb] at hc
      have hp : padN out.length = s.length - (trimP s).length := by unfold padN at hc ⊢; omega
      rw [hp]
      exact hs.symm
theorem unb64P_form (s : List UInt8) : unb64P s = ([], 3) ∨ ∃ t, unb64P s = (t, 0) := by
  unfold unb64P
  split
  · exact .inl rfl
  · split
    · exact .inl rfl
    · split
      · exact .inl rfl
      · split
        · exact .inl rfl
        · exact .inr ⟨_, rfl⟩
/-- The bits of a Base64 text: those of the bytes, and fewer than eight more. -/
theorem unbits_six (al : Nat) (h : al < 64) (r : List UInt8) : unbits sixD 6 (sixC al :: r) = bitsV 6 al ++ unbits sixD 6 r := by
  rw [unbits_cons, idx_sixC _ h, if_neg (by omega), Int.toNat_natCast]
theorem unbits_pad (r : List UInt8) : unbits sixD 6 (61 :: r) = unbits sixD 6 r := by
  rw [unbits_cons, idx_six_pad]
  rfl
theorem unbits_b64 (l : List UInt8) : ∃ r, r.length < 8 ∧ unbits sixD 6 (b64 l) = bitsL l ++ r := by
  induction l using threes with
  | h0 => exact ⟨[], by decide, rfl⟩
  | h1 a =>
    have ha := a.toNat_lt
    refine ⟨[0, 0, 0, 0], by decide, ?_⟩
    rw [b64, unbits_six _ (by omega), unbits_six _ (by omega), unbits_pad, unbits_pad, bitsL_cons, bits6, bits6, bits8]
    simp only [unbits, bitsL, List.flatMap_nil, List.cons_append, List.nil_append, List.append_nil, List.cons.injEq, and_true]
    omega
  | h2 a b =>
    have ha := a.toNat_lt
    have hb := b.toNat_lt
    refine ⟨[0, 0], by decide, ?_⟩
    rw [b64, unbits_six _ (by omega), unbits_six _ (by omega), unbits_six _ (by omega), unbits_pad, bitsL_cons, bitsL_cons, bits6, bits6, bits6, bits8, bits8]
    simp only [unbits, bitsL, List.flatMap_nil, List.cons_append, List.nil_append, List.append_nil, List.cons.injEq, and_true]
    omega
  | h3 a b c r ih =>
    have ha := a.toNat_lt
    have hb := b.toNat_lt
    have hc := c.toNat_lt
    obtain ⟨x, hx, h⟩ := ih
    refine ⟨x, hx, ?_⟩
    rw [b64, unbits_six _ (by omega), unbits_six _ (by omega), unbits_six _ (by omega), unbits_six _ (by omega), h, bitsL_cons, bitsL_cons, bitsL_cons, bits6, bits6, bits6, bits6, bits8, bits8, bits8]
    simp only [List.cons_append, List.nil_append, List.cons.injEq, and_true]
    omega
theorem unpack_b64 (t : List UInt8) : unpack sixD 6 (b64 t) = t := by
  obtain ⟨r, hr, h⟩ := unbits_b64 t
  unfold unpack
  rw [h, List.length_append, bitsL_length, show (8 * t.length + r.length) / 8 = t.length by omega, bytes_bits]
theorem unb64_law (s : List UInt8) : unb64P s = if b64 (unpack sixD 6 s) ≠ s then ([], 3) else (unpack sixD 6 s, 0) := by
  rcases unb64P_form s with h | ⟨t, h⟩
  · rw [h, if_pos]
    intro he
    have := unb64P_b64 (unpack sixD 6 s)
    rw [he, h] at this
    exact absurd (show (3 : Int) = 0 from congrArg Prod.snd this) (by decide)
  · have he := b64_unb64P s t h
    have hu : unpack sixD 6 s = t := by rw [← he, unpack_b64]
    rw [h, hu, if_neg (fun hn => hn he)]
end Arm
