/-
  The digest of a list of bytes, as plain functions.
-/
import Derived.Test.YtlfhijdonejacaaDoorSha3
import Derived.Lib.Repeat
namespace Go.Proofs.YtlfhijdonejacaaDoor
open Go.RowKit
/-- The eight bytes of a number, the highest first. -/
def be64 (n : Nat) : List UInt8 := (List.range 8).map fun i => UInt8.ofNat (n / 2 ^ (56 - 8 * i) % 256)
def zerosOf (n : Nat) : Nat := (119 - n % 64) % 64
/-- What is digested: the bytes, 128, zeros, the number of bits. -/
def padded (L : List UInt8) : List UInt8 := L ++ (128 :: List.replicate (zerosOf L.length) 0) ++ be64 (8 * L.length)
theorem be64_length (n : Nat) : (be64 n).length = 8 := rfl
theorem padded_length (L : List UInt8) : (padded L).length = L.length + 9 + zerosOf L.length := by
  simp [padded, be64_length]; omega
theorem padded_mod (L : List UInt8) : (padded L).length % 64 = 0 := by
  rw [padded_length]; unfold zerosOf; omega
def hexDigits : List UInt8 := [48, 49, 50, 51, 52, 53, 54, 55, 56, 57, 97, 98, 99, 100, 101, 102]
/-- The k-th digit of a word of 32 bits. -/
def nibble (x : Int) (k : Nat) : Nat := (x / 2 ^ (28 - 4 * k)).toNat % 16
def hexWord (x : Int) : List UInt8 := (List.range 8).map fun k => hexDigits.getD (nibble x k) 0
def hexOf (wd : Nat → Int) (n : Nat) : List UInt8 := (List.range n).flatMap fun i => hexWord (wd i)
def shaWords (L : List UInt8) : Nat → Int := wordsN (padded L) ((padded L).length / 64)
def sha (L : List UInt8) : List UInt8 := hexOf (shaWords L) 8
theorem hexWord_length (x : Int) : (hexWord x).length = 8 := rfl
theorem hexOf_succ (wd : Nat → Int) (n : Nat) : hexOf wd (n + 1) = hexOf wd n ++ hexWord (wd n) := by
  simp [hexOf, List.range_succ]
theorem hexOf_length (wd : Nat → Int) (n : Nat) : (hexOf wd n).length = 8 * n := by
  induction n with
  | zero => rfl
  | succ n ih => rw [hexOf_succ, List.length_append, ih, hexWord_length]; omega
/-- The eight bytes, the first k of them. -/
def lenAt (n k : Nat) : Nat → Int := fun j => if j < k then byteAt (be64 n) j else 0
theorem lenAt_step (n k : Nat) : upd (lenAt n k) k (byteAt (be64 n) k) = lenAt n (k + 1) := by
  funext j
  unfold upd lenAt
  by_cases h : j = k
  · subst h; simp
  · by_cases h2 : j < k
    · rw [if_neg h, if_pos h2, if_pos (by omega)]
    · rw [if_neg h, if_neg h2, if_neg (by omega)]
theorem be64_at (n k : Nat) (h : k < 8) : byteAt (be64 n) k = ((n / 2 ^ (56 - 8 * k) % 256 : Nat) : Int) := by
  unfold byteAt be64
  rw [List.getD_eq_getElem?_getD, List.getElem?_map]
  simp [h]
theorem repeat_zero (n : Nat) : Lib.repeatL [0] n = List.replicate n 0 := by
  induction n with
  | zero => rfl
  | succ n ih => rw [Lib.repeatL, ih]; rfl
def padMid (L : List UInt8) : ByteArray := (⟨#[128]⟩ : ByteArray) ++ ⟨(Lib.repeatL [0] (zerosOf L.length)).toArray⟩
theorem padMid_list (L : List UInt8) : (padMid L).data.toList = 128 :: List.replicate (zerosOf L.length) 0 := by
  unfold padMid
  rw [ByteArray.data_append]
  simp only [Array.toList_append]
  rw [← repeat_zero]
  rfl
theorem padMid_size (L : List UInt8) : (padMid L).size = 1 + zerosOf L.length := by
  rw [← size_toList, padMid_list]; simp; omega
theorem padded_eq (L : List UInt8) : L ++ (padMid L).data.toList ++ (⟨(be64 (8 * L.length)).toArray⟩ : ByteArray).data.toList = padded L := by
  rw [padMid_list]
  rfl
theorem be64_val (n k : Nat) (h : k < 8) : (n : Int) * 8 / 2 ^ (56 - 8 * k) % 256 = byteAt (be64 (8 * n)) k := by
  rw [be64_at _ _ h, Nat.mul_comm 8 n]
  simp [Int.natCast_emod, Int.natCast_ediv]
end Go.Proofs.YtlfhijdonejacaaDoor
