/-
  Fold, of the program and of the reference, by contract.
-/
import Derived.Test.YtjhmfcmcgibgmaaDoorArmX
import Derived.Test.YtjhmfcmcgibgmaaDoorKit8
import Derived.Lib.IndexBytes
import Derived.WideShapes
namespace Go.Proofs.YtjhmfcmcgibgmaaDoor
open Go.RowKit
theorem strRowE : ElemRow Tryd.prog 30 9 (.string ByteArray.empty) 1 16 := ⟨by kernel_rfl, by kernel_rfl, rfl, by decide⟩
/-- The pieces of n bytes each. -/
def pieces (n : Nat) (l : List UInt8) : List (List UInt8) := if l = [] ∨ n = 0 then [] else l.take n :: pieces n (l.drop n)
  termination_by l.length
  decreasing_by
    rename_i h
    have : l.length ≠ 0 := fun e => h (.inl (List.eq_nil_of_length_eq_zero e))
    rw [List.length_drop]
    omega
theorem pieces_nil (n : Nat) : pieces n [] = [] := by rw [pieces]; simp
theorem pieces_cons (n : Nat) (l : List UInt8) (h : 0 < l.length) (hn : 0 < n) : pieces n l = l.take n :: pieces n (l.drop n) := by
  rw [pieces, if_neg]
  intro e
  rcases e with e | e
  · rw [e] at h; exact absurd h (by decide)
  · omega
def strOf : Value → ByteArray | .string s => s | _ => ByteArray.empty
def bytesOf (l : List UInt8) : ByteArray := ⟨l.toArray⟩
def RetF (w : World) (n : Int) (k : IntKind) (ps : List ByteArray) (e : Ending) (w' : World) : Prop := ∃ v, e = .returned (.tuple #[v, .int k n]) ∧ OwnT w' w.heap.size 9 v ps ∧ Below w.heap.size w w'
theorem ext_size (r : ByteArray) (n : Nat) : (r.extract n r.size).size = r.size - n := by
  have h := congrArg List.length (Lib.extract_to_end r n)
  rwa [size_toList, List.length_drop, size_toList] at h
theorem ext_upto (r : ByteArray) (n : Nat) : (r.extract 0 n).data.toList = r.data.toList.take n := by
  rw [Lib.extract_data]
  simp
theorem bytesOf_eq (r : ByteArray) (l : List UInt8) (h : r.data.toList = l) : bytesOf l = r := by
  subst h
  cases r
  simp [bytesOf]
theorem piece_step (n : Nat) (s r : ByteArray) (ps : List ByteArray) (h : Hid ((pieces n s.data.toList).map bytesOf = ps ++ (pieces n r.data.toList).map bytesOf)) (h0 : 0 < r.size) (hn : 0 < n) :
    Hid ((pieces n s.data.toList).map bytesOf = ps ++ [r.extract 0 n] ++ (pieces n (r.extract n r.size).data.toList).map bytesOf) := by
  refine Lib.hid ?_
  rw [h.out, pieces_cons n r.data.toList (by rw [size_toList]; exact h0) hn, List.map_cons, Lib.extract_to_end, List.append_assoc, bytesOf_eq (r.extract 0 n) _ (ext_upto r n)]
  rfl
set_option maxRecDepth 100000 in
set_option maxHeartbeats 4000000 in
theorem fold_any (s : ByteArray) (n : Nat) (w : World) (hs : s.size ≤ 1048576) (hn : 1 ≤ n) (hn2 : n ≤ 76) :
    Calls Tryd.prog 19 #[.string s, .int .i64 n] w (RetF w 0 .i64 ((pieces n s.data.toList).map bytesOf)) := by
  go_enter Tryd.func19, Tryd.ntmps19
  have hg1 : decide ((n : Int) < 1) = false := by simp; omega
  have hg2 : decide (76 < (n : Int)) = false := by simp; omega
  go_wp2_with fail
  go_loopw [0, 6] (fun x v wr => ∃ (r : ByteArray) (ps : List ByteArray), x = .string r ∧ r.size ≤ s.size ∧ ps.length + r.size ≤ s.size ∧ Hid ((pieces n s.data.toList).map bytesOf = ps ++ (pieces n r.data.toList).map bytesOf) ∧ OwnT wr w.heap.size 9 v ps ∧ Below w.heap.size w wr) (fun x _ _ => (strOf x).size)
  case atStart => exact ⟨s, [], rfl, Nat.le_refl _, by simp, Lib.hid rfl, OwnT.nil _ _ _, Below.refl _ _⟩
  case round =>
    obtain ⟨r, ps, rfl, hr, hpl, hps, hown, hb⟩ := hrel
    by_cases h0 : 0 < r.size
    · by_cases hle : n ≤ r.size
      · go_wp2_with ((with_reducible refine wpList_push_str rfl _ _ 30 rfl 9 strRowE w.heap.size _ _ wr.heap.size 1 (r.extract 0 n) ?_ ?_ (OwnT.alloc hown _) ?_ ?_ ?_ ?_); exact rfl; exact rfl; exact cell_one _ _ _; omega; (simp only [World.size_alloc]; have := hb.size; omega))
        intro v5 w5 hown5 hb5
        have hb6 : Below w.heap.size w w5 := (hb.alloc hb.size _).trans hb5
        go_wp2_with fail
        go_roundw
        case rel => exact ⟨r.extract n r.size, ps ++ [r.extract 0 n], rfl, by rw [ext_size]; omega, by rw [List.length_append, ext_size]; simp only [List.length_cons, List.length_nil]; omega, piece_step n s r ps hps h0 (by omega), hown5, hb6⟩
        case measure => simp only [strOf, ext_size]; omega
      · go_wp2_with ((with_reducible refine wpList_push_str rfl _ _ 30 rfl 9 strRowE w.heap.size _ _ wr.heap.size 1 r ?_ ?_ (OwnT.alloc hown _) ?_ ?_ ?_ ?_); exact rfl; exact rfl; exact cell_one _ _ _; omega; (simp only [World.size_alloc]; have := hb.size; omega))
        intro v5 w5 hown5 hb5
        have hb6 : Below w.heap.size w w5 := (hb.alloc hb.size _).trans hb5
        go_wp2_with fail
        go_roundw
        case rel =>
          refine ⟨ByteArray.empty, ps ++ [r], rfl, Nat.zero_le _, by rw [List.length_append]; simp only [List.length_cons, List.length_nil]; show _ + 0 ≤ _; omega, ?_, hown5, hb6⟩
          have h := (piece_step n s r ps hps h0 (by omega)).out
          have e1 : r.extract 0 n = r := by
            refine Go.WideShapes.bytes_inj ?_
            rw [ext_upto, List.take_of_length_le (by rw [size_toList]; omega)]
          have e2 : (r.extract n r.size).data.toList = [] := by rw [Lib.extract_to_end, List.drop_of_length_le (by rw [size_toList]; omega)]
          rw [e1, e2] at h
          exact Lib.hid h
        case measure => simp only [strOf]; show 0 < _; omega
    · go_wp2_with fail
      go_ret2
      have hr0 : r.data.toList = [] := List.eq_nil_of_length_eq_zero (by rw [size_toList]; omega)
      refine ⟨_, rfl, ?_, hb⟩
      have h := hps.out
      rw [hr0, pieces_nil, List.map_nil, List.append_nil] at h
      rw [h]
      exact hown
set_option maxRecDepth 100000 in
set_option maxHeartbeats 4000000 in
theorem fold_bad (s : ByteArray) (n : Int) (w : World) (hn : n < 1 ∨ 76 < n) :
    Calls Tryd.prog 19 #[.string s, .int .i64 n] w fun e w' => e = .returned (.tuple #[.slice none 0 0, .int .i64 2]) ∧ w = w' := by
  rcases hn with hn | hn
  · go_enter Tryd.func19, Tryd.ntmps19
    have hg1 : decide (n < 1) = true := by simpa using hn
    go_wp2_with fail
    go_ret2
    exact ⟨rfl, rfl⟩
  · go_enter Tryd.func19, Tryd.ntmps19
    have hg1 : decide (n < 1) = false := by simp; omega
    have hg2 : decide (76 < n) = true := by simpa using hn
    go_wp2_with fail
    go_ret2
    exact ⟨rfl, rfl⟩
set_option maxRecDepth 100000 in
set_option maxHeartbeats 4000000 in
theorem rfold_any (s : ByteArray) (n : Nat) (w : World) (hs : s.size ≤ 1048576) (hn : 1 ≤ n) (hn2 : n ≤ 76) :
    Calls Tryd.prog 20 #[.string s, .int .i64 n] w (RetF w 0 .i64 ((pieces n s.data.toList).map bytesOf)) := by
  go_enter Tryd.func20, Tryd.ntmps20
  have hg1 : decide ((n : Int) < 1) = false := by simp; omega
  have hg2 : decide (76 < (n : Int)) = false := by simp; omega
  go_wp2_with fail
  go_loopw [0, 6] (fun x v wr => ∃ (r : ByteArray) (ps : List ByteArray), x = .string r ∧ r.size ≤ s.size ∧ ps.length + r.size ≤ s.size ∧ Hid ((pieces n s.data.toList).map bytesOf = ps ++ (pieces n r.data.toList).map bytesOf) ∧ OwnT wr w.heap.size 9 v ps ∧ Below w.heap.size w wr) (fun x _ _ => (strOf x).size)
  case atStart => exact ⟨s, [], rfl, Nat.le_refl _, by simp, Lib.hid rfl, OwnT.nil _ _ _, Below.refl _ _⟩
  case round =>
    obtain ⟨r, ps, rfl, hr, hpl, hps, hown, hb⟩ := hrel
    by_cases hle : n < r.size
    · go_wp2_with ((with_reducible refine wpList_push_str rfl _ _ 30 rfl 9 strRowE w.heap.size _ _ wr.heap.size 1 (r.extract 0 n) ?_ ?_ (OwnT.alloc hown _) ?_ ?_ ?_ ?_); exact rfl; exact rfl; exact cell_one _ _ _; omega; (simp only [World.size_alloc]; have := hb.size; omega))
      intro v5 w5 hown5 hb5
      have hb6 : Below w.heap.size w w5 := (hb.alloc hb.size _).trans hb5
      go_wp2_with fail
      go_roundw
      case rel => exact ⟨r.extract n r.size, ps ++ [r.extract 0 n], rfl, by rw [ext_size]; omega, by rw [List.length_append, ext_size]; simp only [List.length_cons, List.length_nil]; omega, piece_step n s r ps hps (by omega) (by omega), hown5, hb6⟩
      case measure => simp only [strOf, ext_size]; omega
    · by_cases h0 : 0 < r.size
      · have hlast : (pieces n s.data.toList).map bytesOf = ps ++ [r] := by
          have h := (piece_step n s r ps hps h0 (by omega)).out
          have e1 : r.extract 0 n = r := by
            refine Go.WideShapes.bytes_inj ?_
            rw [ext_upto, List.take_of_length_le (by rw [size_toList]; omega)]
          have e2 : (r.extract n r.size).data.toList = [] := by rw [Lib.extract_to_end, List.drop_of_length_le (by rw [size_toList]; omega)]
          rw [e1, e2, pieces_nil, List.map_nil, List.append_nil] at h
          exact h
        have HL := Lib.hid hlast
        have hne : r.toList = [] ↔ False := by
          rw [toList_eq]
          refine ⟨fun e => ?_, False.elim⟩
          have := congrArg List.length e
          rw [size_toList] at this
          simp only [List.length_nil] at this
          omega
        have hne2 : r.toList.isEmpty = false := by
          rw [List.isEmpty_eq_false_iff]
          exact fun e => hne.1 e
        clear hlast hps hne
        go_wp2_with ((with_reducible refine wpList_push_str rfl _ _ 30 rfl 9 strRowE w.heap.size _ _ wr.heap.size 1 r ?_ ?_ (OwnT.alloc hown _) ?_ ?_ ?_ ?_); exact rfl; exact rfl; exact cell_one _ _ _; omega; (simp only [World.size_alloc]; have := hb.size; omega))
        intro v5 w5 hown5 hb5
        have hb6 : Below w.heap.size w w5 := (hb.alloc hb.size _).trans hb5
        go_wp2_with fail
        go_ret2
        exact ⟨_, rfl, by rw [HL.out]; exact hown5, hb6⟩
      · have hr0 : r.data.toList = [] := List.eq_nil_of_length_eq_zero (by rw [size_toList]; omega)
        have h := hps.out
        rw [hr0, pieces_nil, List.map_nil, List.append_nil] at h
        have HL := Lib.hid h
        have hne2 : r.toList.isEmpty = true := by
          rw [toList_eq, hr0]
          rfl
        clear h hr0 hps
        go_wp2_with fail
        go_ret2
        exact ⟨_, rfl, by rw [HL.out]; exact hown, hb⟩
set_option maxRecDepth 100000 in
set_option maxHeartbeats 4000000 in
theorem rfold_bad (s : ByteArray) (n : Int) (w : World) (hn : n < 1 ∨ 76 < n) :
    Calls Tryd.prog 20 #[.string s, .int .i64 n] w fun e w' => e = .returned (.tuple #[.slice none 0 0, .int .i64 2]) ∧ w = w' := by
  rcases hn with hn | hn
  · go_enter Tryd.func20, Tryd.ntmps20
    have hg1 : decide (n < 1) = true := by simpa using hn
    go_wp2_with fail
    go_ret2
    exact ⟨rfl, rfl⟩
  · go_enter Tryd.func20, Tryd.ntmps20
    have hg1 : decide (n < 1) = false := by simp; omega
    have hg2 : decide (76 < n) = true := by simpa using hn
    go_wp2_with fail
    go_ret2
    exact ⟨rfl, rfl⟩
end Go.Proofs.YtjhmfcmcgibgmaaDoor
