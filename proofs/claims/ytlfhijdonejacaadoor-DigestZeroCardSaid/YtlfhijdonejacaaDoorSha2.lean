/-
  The states of a hash: what the cells of a Hash hold when the bytes L have been written. No walk stands in it.
-/
import Derived.Test.YtlfhijdonejacaaDoorSha1
namespace Go.Proofs.YtlfhijdonejacaaDoor
open Go.RowKit
/-- The words behind the first q blocks of l. -/
def wordsN (l : List UInt8) : Nat → (Nat → Int)
  | 0 => hAt
  | q + 1 => shaBlock (wordsN l q) (fun j => byteAt l (64 * q + j))
theorem wordsN_bd (l : List UInt8) (q : Nat) : ∀ j, 0 ≤ wordsN l q j ∧ wordsN l q j < 4294967296 := by
  induction q with
  | zero => exact hAt_bd
  | succ q ih => exact shaBlock_bd _ _ ih
theorem byteAt_append (l x : List UInt8) (j : Nat) (h : j < l.length) : byteAt (l ++ x) j = byteAt l j := by
  unfold byteAt
  rw [List.getD_eq_getElem?_getD, List.getD_eq_getElem?_getD, List.getElem?_append_left h]
theorem byteAt_append_right (l x : List UInt8) (j : Nat) (h : l.length ≤ j) : byteAt (l ++ x) j = byteAt x (j - l.length) := by
  unfold byteAt
  rw [List.getD_eq_getElem?_getD, List.getD_eq_getElem?_getD, List.getElem?_append_right h]
theorem byteAt_take (l : List UInt8) (n j : Nat) (h : j < n) : byteAt (l.take n) j = byteAt l j := by
  unfold byteAt
  rw [List.getD_eq_getElem?_getD, List.getD_eq_getElem?_getD, List.getElem?_take, if_pos h]
theorem w16_congr (b b' : Nat → Int) (h : ∀ j, j < 64 → b j = b' j) : ∀ k, k ≤ 16 → w16 b k = w16 b' k
  | 0, _ => rfl
  | k + 1, hk => by
    unfold w16
    rw [w16_congr b b' h k (by omega)]
    unfold wordAt
    rw [h (4 * k) (by omega), h (4 * k + 1) (by omega), h (4 * k + 2) (by omega), h (4 * k + 3) (by omega)]
theorem sched_congr (b b' : Nat → Int) (h : ∀ j, j < 64 → b j = b' j) : ∀ k, sched b k = sched b' k
  | 0 => w16_congr b b' h 16 (by omega)
  | k + 1 => by unfold sched; rw [sched_congr b b' h k]
theorem shaBlock_congr (g b b' : Nat → Int) (h : ∀ j, j < 64 → b j = b' j) : shaBlock g b = shaBlock g b' := by
  unfold shaBlock
  rw [sched_congr b b' h 48]
theorem wordsN_append (l x : List UInt8) : ∀ q, 64 * q ≤ l.length → wordsN (l ++ x) q = wordsN l q
  | 0, _ => rfl
  | q + 1, h => by
    unfold wordsN
    rw [wordsN_append l x q (by omega)]
    exact shaBlock_congr _ _ _ fun j hj => byteAt_append l x _ (by omega)

/-- The cells of a Hash. -/
def hcell (bg : Bool) (wd : Nat → Int) (sz : Int) (tl : Nat → Int) (j : Nat) : Value :=
  if j = 0 then .bool bg else if j < 9 then .int .u32 (wd (j - 1)) else if j = 9 then .int .u64 sz else .int .u8 (tl (j - 10))
theorem hcell_one (bg : Bool) (wd : Nat → Int) (sz : Int) (tl : Nat → Int) (j : Nat) : (hcell bg wd sz tl j).oneCell' = true := by
  unfold hcell
  repeat (split; rfl)
  rfl
theorem hcell_begun (bg x : Bool) (wd : Nat → Int) (sz : Int) (tl : Nat → Int) : rowOf 74 (seg (hcell bg wd sz tl) 0 1 (fun _ => .bool x)) = rowOf 74 (hcell x wd sz tl) :=
  row_congr _ _ _ fun j _ => by
    unfold seg hcell
    by_cases h : j = 0
    · simp [h]
    · have : ¬ (0 ≤ j ∧ j < 0 + 1) := by omega
      simp [h]
theorem hcell_words (bg : Bool) (wd x : Nat → Int) (sz : Int) (tl : Nat → Int) : rowOf 74 (seg (hcell bg wd sz tl) 1 8 (fun j => .int .u32 (x j))) = rowOf 74 (hcell bg x sz tl) :=
  row_congr _ _ _ fun j _ => by
    unfold seg hcell
    by_cases h : 1 ≤ j ∧ j < 1 + 8
    · rw [if_pos h, if_neg (by omega), if_pos (by omega)]
    · rw [if_neg h]
      by_cases h0 : j = 0
      · simp [h0]
      · have h8 : ¬ j < 9 := by omega
        simp [h0, h8]
theorem hcell_size (bg : Bool) (wd : Nat → Int) (sz x : Int) (tl : Nat → Int) : rowOf 74 (seg (hcell bg wd sz tl) 9 1 (fun _ => .int .u64 x)) = rowOf 74 (hcell bg wd x tl) :=
  row_congr _ _ _ fun j _ => by
    unfold seg hcell
    by_cases h : j = 9
    · simp [h]
    · rw [if_neg (by omega)]
      by_cases h0 : j = 0
      · simp [h0]
      · rw [if_neg h0, if_neg h0, if_neg h, if_neg h]
theorem hcell_get_words (bg : Bool) (wd : Nat → Int) (sz : Int) (tl : Nat → Int) : (rowOf 8 fun j => hcell bg wd sz tl (1 + j)) = arrOf .u32 8 wd := by
  rw [arr_row]
  refine row_congr _ _ _ fun j hj => ?_
  unfold hcell
  rw [if_neg (by omega), if_pos (by omega), show 1 + j - 1 = j by omega]
theorem hcell_get_tail (bg : Bool) (wd : Nat → Int) (sz : Int) (tl : Nat → Int) : (rowOf 64 fun j => hcell bg wd sz tl (10 + j)) = arrOf .u8 64 tl := by
  rw [arr_row]
  refine row_congr _ _ _ fun j hj => ?_
  unfold hcell
  rw [if_neg (by omega), if_neg (by omega), if_neg (by omega), show 10 + j - 10 = j by omega]
/-- The tail behind n bytes of s from place k on. -/
def tailPut (tl : Nat → Int) (k n : Nat) (s : List UInt8) : Nat → Int := fun j => if k ≤ j ∧ j < k + n then byteAt s (j - k) else tl j
theorem tailPut_bd (tl : Nat → Int) (k n : Nat) (s : List UInt8) (h : ∀ j, 0 ≤ tl j ∧ tl j < 256) (j : Nat) : 0 ≤ tailPut tl k n s j ∧ tailPut tl k n s j < 256 := by
  unfold tailPut
  split
  · exact byteAt_bd _ _
  · exact h j
theorem hcell_tail (bg : Bool) (wd : Nat → Int) (sz : Int) (tl : Nat → Int) (k n : Nat) (s : List UInt8) : rowOf 74 (seg (hcell bg wd sz tl) (10 + k) n (fun j => .int .u8 (byteAt s j))) = rowOf 74 (hcell bg wd sz (tailPut tl k n s)) :=
  row_congr _ _ _ fun j _ => by
    unfold seg hcell tailPut
    by_cases h : 10 + k ≤ j ∧ j < 10 + k + n
    · rw [if_pos h, if_neg (by omega), if_neg (by omega), if_neg (by omega), if_pos (by omega), show j - 10 - k = j - (10 + k) by omega]
    · rw [if_neg h]
      by_cases h9 : j ≤ 9
      · by_cases h0 : j = 0
        · simp [h0]
        · by_cases h8 : j < 9
          · simp [h0, h8]
          · obtain rfl : j = 9 := by omega
            simp
      · rw [if_neg (by omega), if_neg (by omega), if_neg (by omega), if_neg (by omega), if_neg (by omega), if_neg (by omega), if_neg (by omega)]
/-- The cells of a Hash into which the bytes L have been written. -/
def TailOf (L : List UInt8) (tl : Nat → Int) : Prop := (∀ j, j < L.length % 64 → tl j = byteAt L (64 * (L.length / 64) + j)) ∧ ∀ j, 0 ≤ tl j ∧ tl j < 256
def hashRow (L : List UInt8) (tl : Nat → Int) : Array Value := rowOf 74 (hcell true (wordsN L (L.length / 64)) L.length tl)
def zeroRow : Array Value := rowOf 74 (hcell false (fun _ => 0) 0 (fun _ => 0))
/-- A Hash of the bytes L: as Write leaves it, or the zero one. -/
def HashOf (L : List UInt8) (v : Value) : Prop := (∃ tl, TailOf L tl ∧ v = .agg (hashRow L tl)) ∨ (L = [] ∧ v = .agg zeroRow)
theorem tail_step (L X : List UInt8) (tl : Nat → Int) (n : Nat) (h : TailOf L tl) (hn : n ≤ X.length) (hfit : L.length % 64 + n < 64) :
    TailOf (L ++ X.take n) (tailPut tl (L.length % 64) n X) := by
  have hl : (L ++ X.take n).length = L.length + n := by simp; omega
  refine ⟨fun j hj => ?_, tailPut_bd _ _ _ _ h.2⟩
  rw [hl] at hj ⊢
  have e1 : (L.length + n) % 64 = L.length % 64 + n := by omega
  have e2 : (L.length + n) / 64 = L.length / 64 := by omega
  rw [e1] at hj
  rw [e2]
  unfold tailPut
  by_cases hk : L.length % 64 ≤ j
  · rw [if_pos ⟨hk, hj⟩, byteAt_append_right _ _ _ (by omega), byteAt_take _ _ _ (by omega)]
    congr 1
    omega
  · rw [if_neg (by omega), h.1 j (by omega), byteAt_append _ _ _ (by omega)]
theorem tail_full (L X : List UInt8) (tl : Nat → Int) (n : Nat) (h : TailOf L tl) (hn : n ≤ X.length) (hfit : L.length % 64 + n = 64) :
    (∀ j, j < 64 → tailPut tl (L.length % 64) n X j = byteAt (L ++ X.take n) (64 * (L.length / 64) + j)) ∧ TailOf (L ++ X.take n) (tailPut tl (L.length % 64) n X) := by
  have hl : (L ++ X.take n).length = L.length + n := by simp; omega
  refine ⟨fun j hj => ?_, fun j hj => ?_, tailPut_bd _ _ _ _ h.2⟩
  · unfold tailPut
    by_cases hk : L.length % 64 ≤ j
    · rw [if_pos ⟨hk, by omega⟩, byteAt_append_right _ _ _ (by omega), byteAt_take _ _ _ (by omega)]
      congr 1
      omega
    · rw [if_neg (by omega), h.1 j (by omega), byteAt_append _ _ _ (by omega)]
  · rw [hl] at hj
    omega
theorem words_full (L X : List UInt8) (tl : Nat → Int) (n : Nat) (h : TailOf L tl) (hn : n ≤ X.length) (hfit : L.length % 64 + n = 64) :
    shaBlock (wordsN L (L.length / 64)) (tailPut tl (L.length % 64) n X) = wordsN (L ++ X.take n) ((L ++ X.take n).length / 64) := by
  have hl : (L ++ X.take n).length = L.length + n := by simp; omega
  have e2 : (L ++ X.take n).length / 64 = L.length / 64 + 1 := by omega
  rw [e2]
  show _ = shaBlock (wordsN (L ++ X.take n) (L.length / 64)) (fun j => byteAt (L ++ X.take n) (64 * (L.length / 64) + j))
  rw [wordsN_append L (X.take n) _ (by omega)]
  exact shaBlock_congr _ _ _ (tail_full L X tl n h hn hfit).1
theorem words_step (L X : List UInt8) (n : Nat) (hn : n ≤ X.length) (hfit : L.length % 64 + n < 64) :
    wordsN L (L.length / 64) = wordsN (L ++ X.take n) ((L ++ X.take n).length / 64) := by
  have hl : (L ++ X.take n).length = L.length + n := by simp; omega
  have e2 : (L ++ X.take n).length / 64 = L.length / 64 := by omega
  rw [e2, wordsN_append L (X.take n) _ (by omega)]
theorem hashRow_full (L X : List UInt8) (tl : Nat → Int) (n : Nat) (h : TailOf L tl) (hn : n ≤ X.length) (hfit : L.length % 64 + n = 64) :
    rowOf 74 (hcell true (shaBlock (wordsN L (L.length / 64)) (tailPut tl (L.length % 64) n X)) (↑L.length + ↑n) (tailPut tl (L.length % 64) n X)) = hashRow (L ++ X.take n) (tailPut tl (L.length % 64) n X) := by
  have hl : (L ++ X.take n).length = L.length + n := by simp; omega
  unfold hashRow
  rw [words_full L X tl n h hn hfit, hl, Int.natCast_add]
theorem hashRow_step (L X : List UInt8) (tl : Nat → Int) (n : Nat) (hn : n ≤ X.length) (hfit : L.length % 64 + n < 64) :
    rowOf 74 (hcell true (wordsN L (L.length / 64)) (↑L.length + ↑n) (tailPut tl (L.length % 64) n X)) = hashRow (L ++ X.take n) (tailPut tl (L.length % 64) n X) := by
  have hl : (L ++ X.take n).length = L.length + n := by simp; omega
  unfold hashRow
  rw [words_step L X n hn hfit, hl, Int.natCast_add]
end Go.Proofs.YtlfhijdonejacaaDoor
