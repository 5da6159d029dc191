/-
  jsonlex.comment by its contract.
-/
import Derived.Test.YtjfkiomegacpeaaDoorJsG
import Derived.Lib.IndexLaws
namespace Go.Proofs.YtjfkiomegacpeaaDoor
open Go.RowKit
theorem indexByte_run (c : UInt8) : ∀ l : List UInt8, Lib.indexByte l c = if Jsn.run (fun d => d != c) l = l.length then -1 else (Jsn.run (fun d => d != c) l : Int)
  | [] => rfl
  | b :: l => by
    have ih := indexByte_run c l
    have hle := Jsn.run_le (fun d => d != c) l
    unfold Lib.indexByte
    rw [Jsn.run_cons]
    by_cases h : b = c
    · subst h
      simp
    · have h2 : (b != c) = true := bne_iff_ne.2 h
      have h3 : (b == c) = false := beq_eq_false_iff_ne.2 h
      simp only [h2, h3, Bool.false_eq_true, if_false, if_true, List.length_cons, Nat.add_right_cancel_iff]
      rw [ih]
      by_cases he : Jsn.run (fun d => d != c) l = l.length
      · simp [he]
      · have : ((Jsn.run (fun d => d != c) l : Int) == -1) = false := by rw [beq_eq_false_iff_ne]; omega
        simp [he, this]
def closeI : Option Nat → Int
  | some k => (k : Int)
  | none => -1
theorem index_close : ∀ l : List UInt8, Lib.index l [42, 47] = closeI (Jsn.close l)
  | [] => rfl
  | [a] => by
    unfold Lib.index Jsn.close
    simp [List.isPrefixOf, closeI, Lib.index]
  | a :: b :: r => by
    have ih := index_close (b :: r)
    unfold Lib.index Jsn.close
    by_cases h : a = 42 ∧ b = 47
    · obtain ⟨rfl, rfl⟩ := h
      rfl
    · have h1 : ([42, 47] : List UInt8).isPrefixOf (a :: b :: r) = false := by
        simp only [List.isPrefixOf, Bool.and_true, Bool.and_eq_false_iff, beq_eq_false_iff_ne]
        by_cases ha : a = 42
        · exact Or.inr fun e => h ⟨ha, e.symm⟩
        · exact Or.inl fun e => ha e.symm
      have h2 : (a == 42 && b == 47) = false := by
        simp only [Bool.and_eq_false_iff, beq_eq_false_iff_ne]
        by_cases ha : a = 42
        · exact Or.inr fun e => h ⟨ha, e⟩
        · exact Or.inl ha
      rw [h1, h2, ih]
      cases Jsn.close (b :: r) with
      | none => rfl
      | some k =>
        have : ((k : Int) == -1) = false := by rw [beq_eq_false_iff_ne]; omega
        simp [closeI, this]
def cmtI : Option Nat → Int
  | some k => (k : Int)
  | none => -1
theorem comment_sl_eq (r : List UInt8) : cmtI (Jsn.comment (47 :: 47 :: r)) = ((Jsn.run (fun d => d != 10) (47 :: 47 :: r) : Nat) : Int) := by
  show ((2 + Jsn.run (fun d => d != 10) r : Nat) : Int) = _
  have e : ∀ l, Jsn.run (fun d => d != 10) (47 :: l) = Jsn.run (fun d => d != 10) l + 1 := fun l => by rw [Jsn.run_cons]; rfl
  rw [e, e]
  omega
set_option maxRecDepth 100000 in
set_option maxHeartbeats 4000000 in
theorem comment_line (s : ByteArray) (w : World) (h : ([47, 47] : List UInt8).isPrefixOf s.data.toList = true) :
    Calls Tryd.prog 20 #[.string s] w fun e w' => e = .returned (.int .i64 (Jsn.run (fun d => d != 10) s.data.toList : Nat)) ∧ w = w' := by
  have HP := fun w => Tryd.strings_HasPrefix s ⟨#[47, 47]⟩ w
  have hp : Lib.hasPrefix s.data.toList (⟨#[47, 47]⟩ : ByteArray).data.toList = true := h
  rw [hp] at HP
  have HP := Lib.hid HP
  have HI := fun w => Tryd.strings_IndexByte s 10 w
  rw [show ((10 : Int).toNat.toUInt8) = (10 : UInt8) from rfl, indexByte_run] at HI
  have hle := Jsn.run_le (fun d => d != 10) s.data.toList
  rw [size_toList] at hle HI
  generalize Jsn.run (fun d => d != 10) s.data.toList = n at *
  clear h hp
  by_cases he : n = s.size
  · rw [if_pos he] at HI
    subst he
    have HI := Lib.hid HI
    go_enter Tryd.func20, Tryd.ntmps20
    go_wp2_with fail
    refine (HP.out _).mono ?_
    rintro e w3 ⟨rfl, rfl⟩
    go_wp2_with fail
    refine (HI.out _).mono ?_
    rintro e w3 ⟨rfl, rfl⟩
    go_wp2_with fail
    go_ret
    exact ⟨rfl, rfl⟩
  · rw [if_neg he] at HI
    have HI := Lib.hid HI
    have hn : 0 ≤ (n : Int) := by omega
    go_enter Tryd.func20, Tryd.ntmps20
    go_wp2_with fail
    refine (HP.out _).mono ?_
    rintro e w3 ⟨rfl, rfl⟩
    go_wp2_with fail
    refine (HI.out _).mono ?_
    rintro e w3 ⟨rfl, rfl⟩
    go_wp2_with fail
    go_ret
    exact ⟨rfl, rfl⟩
set_option maxRecDepth 100000 in
set_option maxHeartbeats 4000000 in
theorem comment_block (s : ByteArray) (w : World) (hs : s.size ≤ 65536) (h0 : ([47, 47] : List UInt8).isPrefixOf s.data.toList = false) (h : ([47, 42] : List UInt8).isPrefixOf s.data.toList = true) (h2 : 2 ≤ s.size) (m : Int) (hm : w.cell? ⟨2, 0, none⟩ = some (.int .i64 m)) :
    Calls Tryd.prog 20 #[.string s] w fun e w' => e = .returned (.int .i64 (cmtI ((Jsn.close (s.data.toList.drop 2)).map (· + 4)))) ∧ w = w' := by
  have HP := fun w => Tryd.strings_HasPrefix s ⟨#[47, 47]⟩ w
  have hp : Lib.hasPrefix s.data.toList (⟨#[47, 47]⟩ : ByteArray).data.toList = false := h0
  rw [hp] at HP
  have HP := Lib.hid HP
  have HP2 := fun w => Tryd.strings_HasPrefix s ⟨#[47, 42]⟩ w
  have hp2 : Lib.hasPrefix s.data.toList (⟨#[47, 42]⟩ : ByteArray).data.toList = true := h
  rw [hp2] at HP2
  have HP2 := Lib.hid HP2
  have HI := Tryd.strings_Index (s.extract 2 s.size) ⟨#[42, 47]⟩ m w (by rw [ext_size]; omega) hm
  rw [Lib.extract_to_end, show (⟨#[42, 47]⟩ : ByteArray).data.toList = [42, 47] from rfl, index_close] at HI
  have hb : ∀ k, Jsn.close (s.data.toList.drop 2) = some k → k ≤ s.size := fun k hk => by
    have := Jsn.close_bd _ k hk
    rw [List.length_drop, size_toList] at this
    omega
  have h3 : (2 : Int) ≤ s.size := by omega
  generalize Jsn.close (s.data.toList.drop 2) = co at *
  clear h h0 hp hp2 hm
  cases co with
  | none =>
    have HI : Hid (Calls Tryd.prog 30 #[.string (s.extract 2 s.size), .string ⟨#[42, 47]⟩] w fun e w' => e = .returned (.int .i64 (-1)) ∧ w' = w) := Lib.hid HI
    go_enter Tryd.func20, Tryd.ntmps20
    go_wp2_with fail
    refine (HP.out _).mono ?_
    rintro e w3 ⟨rfl, rfl⟩
    go_wp2_with fail
    refine (HP2.out _).mono ?_
    rintro e w3 ⟨rfl, rfl⟩
    go_wp2_with fail
    refine HI.out.mono ?_
    rintro e w3 ⟨rfl, rfl⟩
    go_wp2_with fail
    go_ret
    exact ⟨rfl, rfl⟩
  | some k =>
    have HI : Hid (Calls Tryd.prog 30 #[.string (s.extract 2 s.size), .string ⟨#[42, 47]⟩] w fun e w' => e = .returned (.int .i64 (k : Int)) ∧ w' = w) := Lib.hid HI
    have hk := hb k rfl
    have hk2 : ¬ ((k : Int) < 0) := by omega
    clear hb
    go_enter Tryd.func20, Tryd.ntmps20
    go_wp2_with fail
    refine (HP.out _).mono ?_
    rintro e w3 ⟨rfl, rfl⟩
    go_wp2_with fail
    refine (HP2.out _).mono ?_
    rintro e w3 ⟨rfl, rfl⟩
    go_wp2_with fail
    refine HI.out.mono ?_
    rintro e w3 ⟨rfl, rfl⟩
    go_wp2_with fail
    go_ret
    exact ⟨rfl, rfl⟩
set_option maxRecDepth 100000 in
set_option maxHeartbeats 4000000 in
theorem comment_no (s : ByteArray) (w : World) (h0 : ([47, 47] : List UInt8).isPrefixOf s.data.toList = false) (h : ([47, 42] : List UInt8).isPrefixOf s.data.toList = false) :
    Calls Tryd.prog 20 #[.string s] w fun e w' => e = .returned (.int .i64 0) ∧ w = w' := by
  have HP := fun w => Tryd.strings_HasPrefix s ⟨#[47, 47]⟩ w
  have hp : Lib.hasPrefix s.data.toList (⟨#[47, 47]⟩ : ByteArray).data.toList = false := h0
  rw [hp] at HP
  have HP := Lib.hid HP
  have HP2 := fun w => Tryd.strings_HasPrefix s ⟨#[47, 42]⟩ w
  have hp2 : Lib.hasPrefix s.data.toList (⟨#[47, 42]⟩ : ByteArray).data.toList = false := h
  rw [hp2] at HP2
  have HP2 := Lib.hid HP2
  clear h h0 hp hp2
  go_enter Tryd.func20, Tryd.ntmps20
  go_wp2_with fail
  refine (HP.out _).mono ?_
  rintro e w3 ⟨rfl, rfl⟩
  go_wp2_with fail
  refine (HP2.out _).mono ?_
  rintro e w3 ⟨rfl, rfl⟩
  go_wp2_with fail
  go_ret
  exact ⟨rfl, rfl⟩
theorem comment_any (s : ByteArray) (w : World) (hs : s.size ≤ 65536) (m : Int) (hm : w.cell? ⟨2, 0, none⟩ = some (.int .i64 m)) :
    Calls Tryd.prog 20 #[.string s] w fun e w' => e = .returned (.int .i64 (cmtI (Jsn.comment s.data.toList))) ∧ w = w' := by
  have pre : ∀ a b : UInt8, ([a, b] : List UInt8).isPrefixOf s.data.toList = true → ∃ r, s.data.toList = a :: b :: r := fun a b h => by
    obtain ⟨r, hr⟩ := List.isPrefixOf_iff_prefix.1 h
    exact ⟨r, hr.symm⟩
  by_cases h1 : ([47, 47] : List UInt8).isPrefixOf s.data.toList = true
  · obtain ⟨r, hr⟩ := pre _ _ h1
    have := comment_line s w h1
    rw [hr, ← comment_sl_eq r] at this
    rw [hr]
    exact this
  · have h1 := Bool.eq_false_iff.2 h1
    by_cases h2 : ([47, 42] : List UInt8).isPrefixOf s.data.toList = true
    · obtain ⟨r, hr⟩ := pre _ _ h2
      have hz : 2 ≤ s.size := by rw [← size_toList, hr]; simp
      have := comment_block s w hs h1 h2 hz m hm
      rw [hr] at this ⊢
      exact this
    · have h2 := Bool.eq_false_iff.2 h2
      have hc : Jsn.comment s.data.toList = some 0 := by
        unfold Jsn.comment
        split
        · rename_i r heq
          rw [heq] at h1
          simp [List.isPrefixOf] at h1
        · rename_i r heq
          rw [heq] at h2
          simp [List.isPrefixOf] at h2
        · rfl
      rw [hc]
      exact comment_no s w h1 h2
end Go.Proofs.YtjfkiomegacpeaaDoor
