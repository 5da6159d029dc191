/-
  The reference's lexer: its state in the world; fail, has, isLetter, isNumeric by their contracts.
-/
import Derived.Test.YtjfkiomegacpeaaDoorJsO
import Derived.Test.YtjfkiomegacpeaaDoorJen
import Derived.BigQuiet
import Derived.Deep.QuietTactic
import Derived.Deep.Cut
import Derived.Deep.CutBlock
import Derived.Deep.CutRange
namespace Go.Proofs.YtjfkiomegacpeaaDoor
open Go.RowKit
/-- The lexer's block: the source, the place, tokens, notes, the error and its place. -/
def LxB (w : World) (g : Nat) (s : ByteArray) (i : Nat) (tv nv : Value) (er a : Int) : Prop := Blk w g 60 #[.string s, .int .i64 (i : Int), tv, nv, .int .i64 er, .int .i64 a]
/-- Nothing but block g is written, and nothing is taken away. -/
def Upd (g : Nat) (w w' : World) : Prop := Below g w w' ∧ w.heap.size ≤ w'.heap.size ∧ ∀ b, b ≠ g → b < w.heap.size → w'.heap[b]? = w.heap[b]?
theorem LxB.lt {w : World} {g : Nat} {s : ByteArray} {i : Nat} {tv nv : Value} {er a : Int} (h : LxB w g s i tv nv er a) : g < w.heap.size := Blk.lt h
theorem LxB.keep {w w' : World} {g : Nat} {s : ByteArray} {i : Nat} {tv nv : Value} {er a : Int} (h : LxB w g s i tv nv er a) (hb : Below w.heap.size w w') : LxB w' g s i tv nv er a := Blk.below h hb (Blk.lt h)
theorem LxB.cells {w : World} {g : Nat} {s : ByteArray} {i : Nat} {tv nv : Value} {er a : Int} (h : LxB w g s i tv nv er a) :
    w.cell? ⟨g, 0, none⟩ = some (.string s) ∧ w.cell? ⟨g, 1, none⟩ = some (.int .i64 (i : Int)) ∧ w.cell? ⟨g, 2, none⟩ = some tv ∧ w.cell? ⟨g, 3, none⟩ = some nv ∧ w.cell? ⟨g, 4, none⟩ = some (.int .i64 er) ∧ w.cell? ⟨g, 5, none⟩ = some (.int .i64 a) :=
  ⟨Blk.at_ h 0, Blk.at_ h 1, Blk.at_ h 2, Blk.at_ h 3, Blk.at_ h 4, Blk.at_ h 5⟩
theorem LxB.free {w : World} {g : Nat} {s : ByteArray} {i : Nat} {tv nv : Value} {er a : Int} (h : LxB w g s i tv nv er a) (j : Nat) : w.frozen? ⟨g, j, none⟩ = false := Blk.free h j
theorem LxB.setI {w : World} {g : Nat} {s : ByteArray} {i : Nat} {tv nv : Value} {er a : Int} (h : LxB w g s i tv nv er a) (k : Nat) (x : Int) (hx : x = (k : Int)) : LxB (w.setCell ⟨g, 1, none⟩ (.int .i64 x)) g s k tv nv er a := by
  subst hx; exact Blk.put h 1 _
theorem LxB.setErr {w : World} {g : Nat} {s : ByteArray} {i : Nat} {tv nv : Value} {er a : Int} (h : LxB w g s i tv nv er a) (e k : Int) : LxB ((w.setCell ⟨g, 4, none⟩ (.int .i64 e)).setCell ⟨g, 5, none⟩ (.int .i64 k)) g s i tv nv e k := Blk.put (Blk.put h 4 _) 5 _
theorem LxB.setT {w : World} {g : Nat} {s : ByteArray} {i : Nat} {tv nv : Value} {er a : Int} (h : LxB w g s i tv nv er a) (t : Value) : LxB (w.setCell ⟨g, 2, none⟩ t) g s i t nv er a := Blk.put h 2 _
theorem LxB.setN {w : World} {g : Nat} {s : ByteArray} {i : Nat} {tv nv : Value} {er a : Int} (h : LxB w g s i tv nv er a) (t : Value) : LxB (w.setCell ⟨g, 3, none⟩ t) g s i tv t er a := Blk.put h 3 _
theorem LxB.drew {w : World} {g : Nat} {s : ByteArray} {i : Nat} {tv nv : Value} {er a : Int} (h : LxB w g s i tv nv er a) : LxB w.drew g s i tv nv er a := h
theorem Upd.refl (g : Nat) (w : World) : Upd g w w := ⟨Below.refl _ _, Nat.le_refl _, fun _ _ _ => rfl⟩
theorem Upd.trans {g : Nat} {w w1 w2 : World} (h : Upd g w w1) (h2 : Upd g w1 w2) : Upd g w w2 :=
  ⟨h.1.trans h2.1, Nat.le_trans h.2.1 h2.2.1, fun b hb hl => (h2.2.2 b hb (Nat.lt_of_lt_of_le hl h.2.1)).trans (h.2.2 b hb hl)⟩
theorem Upd.drew {g : Nat} {w w1 : World} (h : Upd g w w1) : Upd g w w1.drew := ⟨h.1.drew, h.2.1, h.2.2⟩
theorem Upd.cell {g : Nat} {w w1 : World} (h : Upd g w w1) (k : Nat) (v : Value) : Upd g w (w1.setCell ⟨g, k, none⟩ v) := by
  refine ⟨h.1.setCell (Nat.le_refl _) _, ?_, fun b hb hl => ?_⟩
  · have e : (w1.setCell ⟨g, k, none⟩ v).heap.size = w1.heap.size := by
      have := (Below.refl w1.heap.size w1)
      unfold World.setCell
      split <;> simp
    rw [e]; exact h.2.1
  · rw [heap_setCell_other w1 ⟨g, k, none⟩ b v hb]; exact h.2.2 b hb hl
theorem Upd.of {g : Nat} {w w1 : World} (h : Below w.heap.size w w1) (hg : g ≤ w.heap.size) : Upd g w w1 := ⟨h.mono hg, h.size, fun b _ hl => h.block b hl⟩
theorem own_upd {w w' : World} {base g n size : Nat} {e : TypeId} {v : Value} {xs : List Value} (h : w.ownsRow base e size v n xs) (hg : g < base) (hu : Upd g w w') : w'.ownsRow base e size v n xs := by
  refine ⟨h.1, ?_⟩
  rcases h.2 with hn | ⟨k, cap, cur, rfl, hb, hk, r⟩
  · exact Or.inl hn
  · exact Or.inr ⟨k, cap, cur, rfl, hb, by rw [hu.2.2 k (by omega) (Array.getElem?_eq_some_iff.1 hk).1]; exact hk, r⟩
set_option maxRecDepth 100000 in
set_option maxHeartbeats 4000000 in
theorem lfail_any (g : Nat) (s : ByteArray) (i : Nat) (tv nv : Value) (er a e k : Int) (w : World) (h : LxB w g s i tv nv er a) :
    Calls Tryd.prog 42 #[.pointer (some ⟨g, 0, none⟩), .int .i64 e, .int .i64 k] w fun r w' => r = .returned (.tuple #[]) ∧ LxB w' g s i tv nv e k ∧ Upd g w w' := by
  obtain ⟨c0, c1, c2, c3, c4, c5⟩ := h.cells
  have f4 := h.free 4
  have f5 := h.free 5
  have h4 : LxB (w.setCell ⟨g, 4, none⟩ (.int .i64 e)) g s i tv nv e a := Blk.put h 4 _
  have c5b := h4.cells.2.2.2.2.2
  have f5b := h4.free 5
  have hF := h.setErr e k
  have hU := ((Upd.refl g w).cell 4 (.int .i64 e)).cell 5 (.int .i64 k)
  go_enter Tryd.func42, Tryd.ntmps42
  go_wp2_with fail
  refine bodyPost_end (results_none rfl _ _ _) rfl ?_
  exact ⟨rfl, hF, hU⟩
set_option synthInstance.maxSize 100000 in
set_option synthInstance.maxHeartbeats 0 in
set_option maxRecDepth 100000 in
set_option maxHeartbeats 4000000 in
theorem lletter_any (c : UInt8) (w : World) :
    Calls Tryd.prog 39 #[.int .u8 (c.toNat : Int)] w fun e w' => e = .returned (.bool (Jsn.letter c)) ∧ w = w' := by
  have hc := c.toNat_lt
  go_enter Tryd.func39, Tryd.ntmps39
  go_wp2
  all_goals
    go_ret
    refine ret_bool ?_
    clear w hc
    revert c
    refine bytes_all ?_
    decide +kernel
set_option synthInstance.maxSize 100000 in
set_option synthInstance.maxHeartbeats 0 in
set_option maxRecDepth 100000 in
set_option maxHeartbeats 4000000 in
theorem lnumeric_any (c : UInt8) (w : World) :
    Calls Tryd.prog 40 #[.int .u8 (c.toNat : Int)] w fun e w' => e = .returned (.bool (Jsn.numeric c)) ∧ w = w' := by
  have hc := c.toNat_lt
  go_enter Tryd.func40, Tryd.ntmps40
  go_wp2
  all_goals
    go_ret
    refine ret_bool ?_
    clear w hc
    revert c
    refine bytes_all ?_
    decide +kernel
/-- Two bytes begin a list. -/
def h2 (a b : UInt8) : List UInt8 → Bool
  | x :: y :: _ => x == a && y == b
  | _ => false
theorem h2_at {s : ByteArray} {i : Nat} (h : i + 2 ≤ s.size) (a b : UInt8) : ((s.extract i (i + 2)).toList == (⟨#[a, b]⟩ : ByteArray).toList) = h2 a b (s.data.toList.drop i) := by
  rw [toList_eq, toList_eq, drop_at s i (by omega), drop_at s (i + 1) (by omega)]
  have e : (s.extract i (i + 2)).data.toList = [s[i], s[i + 1]] := by
    rw [ByteArray.data_extract, Array.toList_extract, List.extract_eq_take_drop, show i + 2 - i = 2 by omega]
    have := drop_at s i (by omega)
    have h3 := drop_at s (i + 1) (by omega)
    rw [this, h3]
    rfl
  rw [e]
  show ([s[i], s[i + 1]] == [a, b]) = (s[i] == a && s[i + 1] == b)
  simp [List.cons_beq_cons]
theorem h2_short {s : ByteArray} {i : Nat} (h : ¬ i + 2 ≤ s.size) (a b : UInt8) : h2 a b (s.data.toList.drop i) = false := by
  have hl : (s.data.toList.drop i).length ≤ 1 := by rw [List.length_drop, size_toList]; omega
  match s.data.toList.drop i, hl with
  | [], _ => rfl
  | [_], _ => rfl
  | _ :: _ :: _, h => simp at h
set_option maxRecDepth 100000 in
set_option maxHeartbeats 4000000 in
theorem lhas_any (g : Nat) (s : ByteArray) (i : Nat) (tv nv : Value) (er a : Int) (x y : UInt8) (w : World) (h : LxB w g s i tv nv er a) (hs : s.size ≤ 65536) (hi : i ≤ s.size) :
    Calls Tryd.prog 36 #[.pointer (some ⟨g, 0, none⟩), .string ⟨#[x, y]⟩] w fun r w' => r = .returned (.bool (h2 x y (s.data.toList.drop i))) ∧ ∃ n, w' = w.drewN n := by
  obtain ⟨c0, c1, c2, c3, c4, c5⟩ := h.cells
  have hq : (⟨#[x, y]⟩ : ByteArray).size = 2 := rfl
  have hwr : IntKind.i64.wrap ((i : Int) + 2) = (i : Int) + 2 := IntWalk.i64_in _ (by omega)
  by_cases h2s : i + 2 ≤ s.size
  · have e0 := h2_at h2s x y
    have b1 : (i : Int) + 2 ≤ (s.size : Int) := by omega
    have b2 : (i : Int) ≤ (i : Int) + 2 := by omega
    have b3 : 0 ≤ (i : Int) + 2 := by omega
    have b4 : ((i : Int) + 2).toNat = i + 2 := by omega
    generalize h2 x y (s.data.toList.drop i) = r at *
    generalize (⟨#[x, y]⟩ : ByteArray) = q at *
    go_enter Tryd.func36, Tryd.ntmps36
    go_wp2_with fail
    go_quiet (fail)
    go_wp2_with fail
    go_ret
    exact ⟨rfl, _, rfl⟩
  · rw [h2_short h2s]
    have b1 : decide ((i : Int) + 2 ≤ (s.size : Int)) = false := decide_eq_false (by omega)
    generalize (⟨#[x, y]⟩ : ByteArray) = q at *
    go_enter Tryd.func36, Tryd.ntmps36
    go_wp2_with fail
    go_quiet (fail)
    go_wp2_with fail
    go_ret
    exact ⟨rfl, _, rfl⟩
end Go.Proofs.YtjfkiomegacpeaaDoor
