/-
  codepoint.Encode of one rune by its contract.
-/
import Derived.Test.YtdhbljbfjdlcdaaDoorBld
import Derived.Test.YtdhbljbfjdlcdaaDoorTom0
import Derived.Test.YtdhbljbfjdlcdaaDoorShelf
import Derived.Lib.Hide
namespace Go.Proofs.YtdhbljbfjdlcdaaDoor
open Go.RowKit
theorem u8_ofNat (n : Nat) (h : n < 256) : (UInt8.ofNat n).toNat = n := by
  simp [UInt8.toNat_ofNat', Nat.mod_eq_of_lt h]
theorem rune_cells (n : Nat) (h : Tom.scalar n = true) : Lib.runeCells (n : Int) = byteVals (Tom.enc n) := by
  unfold Tom.scalar at h
  simp only [Bool.or_eq_true, Bool.and_eq_true, decide_eq_true_eq] at h
  unfold Lib.runeCells Tom.enc byteVals
  by_cases h1 : n < 128
  · rw [if_pos h1, Lib.encodeRuneZ_one (by omega) (by omega)]
    simp only [List.map_cons, List.map_nil, u8_ofNat n (by omega)]
  · rw [if_neg h1]
    by_cases h2 : n < 2048
    · rw [if_pos h2, Lib.encodeRuneZ_two (by omega) (by omega)]
      simp only [List.map_cons, List.map_nil]
      rw [u8_ofNat _ (by omega), u8_ofNat _ (by omega)]
      simp
    · rw [if_neg h2]
      by_cases h3 : n < 65536
      · rw [if_pos h3, Lib.encodeRuneZ_three (by omega)]
        simp only [List.map_cons, List.map_nil]
        rw [u8_ofNat _ (by omega), u8_ofNat _ (by omega), u8_ofNat _ (by omega)]
        simp
      · rw [if_neg h3, Lib.encodeRuneZ_four (by omega) (by omega)]
        simp only [List.map_cons, List.map_nil]
        rw [u8_ofNat _ (by omega), u8_ofNat _ (by omega), u8_ofNat _ (by omega), u8_ofNat _ (by omega)]
        simp
theorem valid_scalar (n : Nat) : Lib.validRune (n : Int) = Tom.scalar n := by
  unfold Lib.validRune Tom.scalar
  rw [Bool.eq_iff_iff]
  simp only [Bool.or_eq_true, Bool.and_eq_true, decide_eq_true_eq]
  omega
set_option maxHeartbeats 4000000 in
set_option maxRecDepth 100000 in
theorem encode_one (g n : Nat) (w : World) (hn : n ≤ 2147483647) (hc : w.cell? ⟨g, 0, none⟩ = some (.int .i32 (n : Int))) :
    Calls Tryd.prog 90 #[.slice (some ⟨g, 0, none⟩) 1 1] w fun e w' => e = .returned (.tuple #[.string (if Tom.scalar n then ⟨(Tom.enc n).toArray⟩ else ⟨#[]⟩), .int .i64 (if Tom.scalar n then 0 else 11)]) ∧ Below w.heap.size w w' := by
  have HV := Lib.hid (fun (w : World) => Tryd.utf8_ValidRune (n : Int) w)
  rw [valid_scalar] at HV
  cases hs : Tom.scalar n with
  | false =>
    rw [hs] at HV
    clear hs
    go_enter Tryd.func90, Tryd.ntmps90
    go_wp2_with fail
    go_loopw [9, 4] (fun i v wr => i = .int .i64 0 ∧ v = .slice none 0 0 ∧ wr = w) (fun _ _ _ => 0)
    case atStart => exact ⟨rfl, rfl, rfl⟩
    case round =>
      obtain ⟨rfl, rfl, rfl⟩ := hrel
      go_wp2_with (go_at_call 94; refine (HV.out _).mono ?_; rintro e w3 ⟨rfl, rfl⟩)
      go_ret2
      exact ⟨rfl, Below.refl _ _⟩
  | true =>
    rw [hs] at HV
    have HC := Lib.hid (rune_cells n hs)
    have hl : (Tom.enc n).length ≤ 4 := by
      unfold Tom.enc
      split
      · simp
      · split
        · simp
        · split <;> simp
    clear hs
    go_enter Tryd.func90, Tryd.ntmps90
    go_wp2_with fail
    go_loopw [9, 4] (fun i v wr => (i = .int .i64 0 ∧ v = .slice none 0 0 ∧ wr = w) ∨ (i = .int .i64 1 ∧ OwnB wr w.heap.size 5 v (Tom.enc n) ∧ Below w.heap.size w wr)) (fun i _ _ => 1 - (intOf i).toNat)
    case atStart => exact .inl ⟨rfl, rfl, rfl⟩
    case round =>
      rcases hrel with ⟨rfl, rfl, rfl⟩ | ⟨rfl, hown, hb⟩
      · go_wp2_with (go_at_call 94; refine (HV.out _).mono ?_; rintro e w3 ⟨rfl, rfl⟩)
        refine (Tryd.utf8_AppendRune_plain w3.heap.size (.slice none 0 0) 0 [] (n : Int) (by omega) (by omega) w3 (World.ownsRow_nil _ _ _ _) (by omega) (Nat.le_refl _)).mono ?_
        rintro e w4 ⟨v4, rfl, hown, o, hgr⟩
        have hown4 : OwnB w4 w3.heap.size 5 v4 (Tom.enc n) := by
          rw [HC.out, List.nil_append, Nat.zero_add] at hown
          unfold OwnB
          have e : (byteVals (Tom.enc n)).length = (Tom.enc n).length := by unfold byteVals; rw [List.length_map]
          rw [e] at hown
          exact hown
        have hb4 : Below w3.heap.size w3 w4 := ((Below.refl _ _).alloc (Nat.le_refl _) o).grown hgr (by simp only [World.size_alloc]; omega) (fun k hk => by simp [Value.ownBlock] at hk)
        clear hown hgr
        go_wp2_with fail
        go_roundw
        case rel => exact .inr ⟨rfl, hown4, hb4⟩
        case measure => simp [intOf]
      · go_wp2_with ((with_reducible refine wpList_own_string rfl 98 9 _ rfl 5 Tryd.underlying98 Tryd.underlying5 Tryd.underlying9 _ _ (Tom.enc n) ?_ hown ?_); exact rfl)
        go_ret2
        exact ⟨rfl, hb⟩
end Go.Proofs.YtdhbljbfjdlcdaaDoor
