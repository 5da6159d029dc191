/-
  The plain law of armor, Base64 by groups of three bytes.
-/
import Derived.Test.YtjhmfcmcgibgmaaDoorArm1
namespace Arm
def byteN (l : List UInt8) (j : Nat) : Nat := (l.getD j 0).toNat
/-- The bits of a group: k bytes from i on. -/
def grp (l : List UInt8) (i : Nat) : Nat → Nat
  | 0 => 0
  | k + 1 => grp l i k * 256 + byteN l (i + k)
def quadC (l : List UInt8) (i k : Nat) : UInt8 := if i + k ≤ l.length then sixC (grp l i 3 / 2 ^ (18 - 6 * k) % 64) else 61
def quad (l : List UInt8) (i : Nat) : List UInt8 := (List.range 4).map (quadC l i)
theorem quad_take (l : List UInt8) (i k : Nat) (hk : k < 4) : (quad l i).take (k + 1) = (quad l i).take k ++ [quadC l i k] := by
  rw [List.take_add_one]
  congr 1
  unfold quad
  simp [hk]
theorem quad_len (l : List UInt8) (i : Nat) : (quad l i).length = 4 := by simp [quad]
theorem byteN_lt (l : List UInt8) (j : Nat) : byteN l j < 256 := (l.getD j 0).toNat_lt
theorem grp_lt (l : List UInt8) (i : Nat) : ∀ k, grp l i k < 256 ^ k
  | 0 => by simp [grp]
  | k + 1 => by
    have := grp_lt l i k
    have := byteN_lt l (i + k)
    rw [grp, Nat.pow_succ]
    omega
theorem getD_drop (l : List UInt8) (i j : Nat) : l.getD (i + j) 0 = (l.drop i).getD j 0 := by
  simp [List.getD_eq_getElem?_getD, List.getElem?_drop]
theorem b64_quad (l : List UInt8) (i : Nat) (h : i < l.length) : b64 (l.drop i) = quad l i ++ b64 (l.drop (i + 3)) := by
  have hlen : (l.drop i).length = l.length - i := List.length_drop
  have e0 : byteN l (i + 0) = ((l.drop i).getD 0 0).toNat := by unfold byteN; rw [getD_drop]
  have e1 : byteN l (i + 1) = ((l.drop i).getD 1 0).toNat := by unfold byteN; rw [getD_drop]
  have e2 : byteN l (i + 2) = ((l.drop i).getD 2 0).toNat := by unfold byteN; rw [getD_drop]
  have eg : grp l i 3 = (byteN l (i + 0) * 256 + byteN l (i + 1)) * 256 + byteN l (i + 2) := by simp [grp]
  have hd : l.drop (i + 3) = (l.drop i).drop 3 := by rw [List.drop_drop]
  have hq : quad l i = [quadC l i 0, quadC l i 1, quadC l i 2, quadC l i 3] := rfl
  have q0 : quadC l i 0 = sixC (grp l i 3 / 262144 % 64) := if_pos (by omega)
  have q1 : quadC l i 1 = sixC (grp l i 3 / 4096 % 64) := if_pos (by omega)
  rw [hq, hd, q0, q1]
  unfold quadC
  rw [eg, e0, e1, e2]
  match hm : l.drop i, hlen with
  | [], hlen => simp at hlen; omega
  | [a], hlen =>
    have ha := a.toNat_lt
    simp only [List.length_cons, List.length_nil] at hlen
    rw [if_neg (by omega), if_neg (by omega)]
    simp only [b64, List.getD_cons_zero, List.getD_cons_succ, List.getD_nil, List.drop_succ_cons, List.drop_nil, List.append_nil]
    show [sixC (a.toNat / 4), sixC (a.toNat % 4 * 16), 61, 61] = [sixC (((a.toNat * 256 + 0) * 256 + 0) / 262144 % 64), sixC (((a.toNat * 256 + 0) * 256 + 0) / 4096 % 64), 61, 61]
    rw [show ((a.toNat * 256 + 0) * 256 + 0) / 262144 % 64 = a.toNat / 4 by omega, show ((a.toNat * 256 + 0) * 256 + 0) / 4096 % 64 = a.toNat % 4 * 16 by omega]
  | [a, b], hlen =>
    have ha := a.toNat_lt
    have hb := b.toNat_lt
    simp only [List.length_cons, List.length_nil] at hlen
    rw [if_pos (by omega), if_neg (by omega)]
    simp only [b64, List.getD_cons_zero, List.getD_cons_succ, List.getD_nil, List.drop_succ_cons, List.drop_nil, List.append_nil]
    show [sixC (a.toNat / 4), sixC (a.toNat % 4 * 16 + b.toNat / 16), sixC (b.toNat % 16 * 4), 61] = [sixC (((a.toNat * 256 + b.toNat) * 256 + 0) / 262144 % 64), sixC (((a.toNat * 256 + b.toNat) * 256 + 0) / 4096 % 64), sixC (((a.toNat * 256 + b.toNat) * 256 + 0) / 64 % 64), 61]
    rw [show ((a.toNat * 256 + b.toNat) * 256 + 0) / 262144 % 64 = a.toNat / 4 by omega, show ((a.toNat * 256 + b.toNat) * 256 + 0) / 4096 % 64 = a.toNat % 4 * 16 + b.toNat / 16 by omega, show ((a.toNat * 256 + b.toNat) * 256 + 0) / 64 % 64 = b.toNat % 16 * 4 by omega]
  | a :: b :: c :: r, hlen =>
    have ha := a.toNat_lt
    have hb := b.toNat_lt
    have hc := c.toNat_lt
    simp only [List.length_cons] at hlen
    rw [if_pos (by omega), if_pos (by omega)]
    simp only [b64, List.getD_cons_zero, List.getD_cons_succ, List.drop_succ_cons, List.drop_zero]
    show _ = [sixC (((a.toNat * 256 + b.toNat) * 256 + c.toNat) / 262144 % 64), sixC (((a.toNat * 256 + b.toNat) * 256 + c.toNat) / 4096 % 64), sixC (((a.toNat * 256 + b.toNat) * 256 + c.toNat) / 64 % 64), sixC (((a.toNat * 256 + b.toNat) * 256 + c.toNat) / 1 % 64)] ++ b64 r
    rw [show ((a.toNat * 256 + b.toNat) * 256 + c.toNat) / 262144 % 64 = a.toNat / 4 by omega, show ((a.toNat * 256 + b.toNat) * 256 + c.toNat) / 4096 % 64 = a.toNat % 4 * 16 + b.toNat / 16 by omega, show ((a.toNat * 256 + b.toNat) * 256 + c.toNat) / 64 % 64 = b.toNat % 16 * 4 + c.toNat / 64 by omega,
      show ((a.toNat * 256 + b.toNat) * 256 + c.toNat) / 1 % 64 = c.toNat % 64 by omega]
    rfl
end Arm
