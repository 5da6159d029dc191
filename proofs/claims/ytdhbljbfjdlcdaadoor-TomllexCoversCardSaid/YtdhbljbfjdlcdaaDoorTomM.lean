/-
  tomllex.content at one double quote, at single quotes.
-/
import Derived.Test.YtdhbljbfjdlcdaaDoorTomL
import Derived.Deep.LoopGhost
import Derived.Outline
namespace Go.Proofs.YtdhbljbfjdlcdaaDoor
open Go.RowKit
set_option maxRecDepth 100000 in
set_option maxHeartbeats 4000000 in
theorem content_d1 (s : ByteArray) (w : World) (h3 : 1 ≤ s.size) (hs : s.size ≤ 1099511627) :
    Calls Tryd.prog 42 #[.string s, .string ⟨#[34]⟩] w (RetC w (Tom.content [34] s.data.toList)) := by
  obtain ⟨C, hC⟩ : ∃ C, C = Tom.content [34] s.data.toList := ⟨_, rfl⟩
  rw [← hC]
  have HC0 : Hid (C = Tom.contLoop [34] false (s.size + 1) 1 [] (s.data.toList.drop 1)) := Lib.hid (by rw [hC, ← size_toList]; rfl)
  clear hC
  go_enter Tryd.func42, Tryd.ntmps42
  go_wp2
  go_step3
  go_wp2
  go_step3
  go_wp2
  go_loopg [8] (s.size - 1) (fun g i wr => ∃ (k f : Nat) (out : List UInt8), k + g = s.size ∧ i = .int .i64 k ∧ s.size - k < f ∧ out.length ≤ k ∧ Hid (C = Tom.contLoop [34] false f k out (s.data.toList.drop k)) ∧ Bld wr w.heap.size w.heap.size out ∧ Below w.heap.size w wr)
  case atStart =>
    exact ⟨1, s.size + 1, [], by omega, by go_num, by omega, by simp, HC0, Bld.fresh w, below_alloc _⟩
  case round =>
    obtain ⟨k, f, out, hg, rfl, hf, hol, HC, hbld, hbel⟩ := hrel
    by_cases hlt : k < s.size
    · obtain ⟨f, rfl⟩ : ∃ f', f = f' + 1 := ⟨f - 1, by omega⟩
      have e0 : s.data.toList.drop k = s[k] :: s.data.toList.drop (k + 1) := List.drop_eq_getElem_cons (by rw [size_toList]; exact hlt)
      have HS := Lib.hid (HC.out.trans (Tom.cont_round _ _ f k out _ _ e0))
      have HP := Lib.hid (fun w => prefix_from s ⟨#[34]⟩ k w)
      have HL := Lib.hid (fun w => lineEnd_from s k w)
      have HF := Lib.hid (fun w => folded_from s k w hlt (by omega))
      have HE := Lib.hid (fun w => escape_from s k w (by omega))
      have HK := Lib.hid (fun w => control_any s[k] w)
      have hle : Tom.lineEnd (s.data.toList.drop k) ≤ s.size - k := by
        have := Tom.lineEnd_le (s.data.toList.drop k)
        rwa [List.length_drop, size_toList] at this
      have hfl : Tom.folded (s.data.toList.drop k) ≤ s.size - k := by
        have := Tom.folded_le (s.data.toList.drop k) (by rw [e0]; simp)
        rwa [List.length_drop, size_toList] at this
      have hel : ∀ t n, Tom.escape (s.data.toList.drop k) = some (t, n) → 2 ≤ n ∧ n ≤ s.size - k ∧ t.length ≤ n := fun t n h => by
        have := Tom.escape_bd _ _ _ h
        rwa [List.length_drop, size_toList] at this
      have Hel := Lib.hid hel
      clear e0 HC hel
      generalize Tom.lineEnd (s.data.toList.drop k) = le at *
      generalize Tom.folded (s.data.toList.drop k) = fo at *
      generalize Tom.escape (s.data.toList.drop k) = es at *
      have ec : (⟨#[34]⟩ : ByteArray).data.toList = [34] := rfl
      rw [ec] at HP
      clear ec
      cases h1 : Tom.starts [34] (s.data.toList.drop k) with
      | true => 
        rw [h1, if_pos rfl] at HS
        rw [h1] at HP
        clear h1
        go_wp2_with (first
          | (go_at_call 38; refine (HP.out _).mono ?_; rintro e w3 ⟨rfl, rfl⟩))
        clear HP HL HF HE HK Hel hle hfl hf hg HC0 h3
        generalize decide (s.size ≤ k) = b99
        go_loopg [8, 100] 2 (fun g i j wr => ∃ (p m : Nat) (o : List UInt8), m + g = 2 ∧ i = .int .i64 p ∧ j = .int .i64 m ∧ p < s.size ∧ o.length ≤ p ∧ Hid (C = Tom.fin [34] false s.data.toList g p o) ∧ Bld wr w.heap.size w.heap.size o ∧ Below w.heap.size w wr)
        case atStart => exact ⟨k, 0, out, rfl, rfl, rfl, hlt, hol, HS, hbld, hbel⟩
        case round =>
          clear HS hbld hbel hol
          obtain ⟨k, m, o, hg, rfl, rfl, hlt, hol, HS, hbld, hbel⟩ := hrel
          by_cases hm : m < 2
          · obtain ⟨g, rfl⟩ : ∃ g', gk = g' + 1 := ⟨gk - 1, by omega⟩
            have HS2 : Hid (C = Tom.fin [34] false s.data.toList g k o) := Lib.hid (by rw [HS.out]; rfl)
            clear HS
            go_wp2
            go_roundg g
            case measure => omega
            case rel => exact ⟨k, m + 1, o, by omega, by go_num, by go_num, by omega, by omega, HS2, hbld, hbel⟩
          · obtain rfl : gk = 0 := by omega
            have HK3 : Hid (C = .ok o (k + 1)) := HS
            clear HS hg
            have hbs := hbel.size
            go_wp2_with (go_at_call 68; refine (string_any w.heap.size w.heap.size o _ hbld hbs).mono ?_; rintro e w3 ⟨rfl, hb3⟩)
            rw [Exit.noGoto_ret]
            go_ret3
            rw [HK3.out]
            exact retC_ok (o := o) (n := k + 1) (a := (k : Int) + 1) (by omega) (hbel.trans hb3)
      | false =>
        rw [h1, if_neg (by decide)] at HS
        rw [h1] at HP
        clear h1
        rw [Bool.false_and, if_neg (by decide)] at HS
        cases h2 : Tom.control s[k] with
        | true =>
          rw [h2, if_pos rfl] at HS
          rw [h2] at HK
          clear h2
          go_wp2_with (first
            | (go_at_call 38; refine (HP.out _).mono ?_; rintro e w3 ⟨rfl, rfl⟩)
            | (go_at_call 20; refine (HL.out _).mono ?_; rintro e w3 ⟨rfl, rfl⟩)
            | (go_at_call 21; refine (HK.out _).mono ?_; rintro e w3 ⟨rfl, rfl⟩))
          rw [Exit.noGoto_ret]
          go_ret3
          rw [HS.out]
          exact retC_bad hbel
        | false =>
          rw [h2, if_neg (by decide)] at HS
          rw [h2] at HK
          clear h2
          by_cases h3 : s[k] = 92
          · have h4 : ((s[k].toNat : Int) = 92) := by rw [h3]; rfl
            have h5 : (s[k] == 92 && ([34] : List UInt8).headD 0 == 34) = true := by rw [h3]; rfl
            rw [if_pos h5] at HS
            clear h3 h5 HK
            have HK : Hid (∀ w : World, Calls Tryd.prog 21 #[.int .u8 92] w fun e w' => e = .returned (.bool false) ∧ w = w') := Lib.hid (fun w => control_any 92 w)
            have H4 := Lib.hid h4
            rw [Bool.false_and, if_neg (by decide)] at HS
            match es, HS, HE, Hel with
            | none, HS, HE, Hel =>
              have HE : Hid (∀ w : World, Calls Tryd.prog 71 #[.string (s.extract k s.size)] w fun e w' => e = .returned (.tuple #[.string ⟨#[]⟩, .int .i64 0]) ∧ Below w.heap.size w w') := Lib.hid (fun w => HE.out w)
              go_wp2_with (first
                | (go_at_call 38; refine (HP.out _).mono ?_; rintro e w3 ⟨rfl, rfl⟩)
                | (go_at_call 20; refine (HL.out _).mono ?_; rintro e w3 ⟨rfl, rfl⟩)
                | (go_at_call 21; refine (HK.out _).mono ?_; rintro e w3 ⟨rfl, rfl⟩)
                | (go_at_call 70; refine (HF.out _).mono ?_; rintro e w3 ⟨rfl, rfl⟩)
                | (go_at_call 71; refine (HE.out _).mono ?_; rintro e w3 ⟨rfl, hb3⟩))
              rw [Exit.noGoto_ret]
              go_ret3
              rw [HS.out]
              exact retC_bad (hbel.trans (hb3.mono hbel.size))
            | some (t, n), HS, HE, Hel =>
              have HE : Hid (∀ w : World, Calls Tryd.prog 71 #[.string (s.extract k s.size)] w fun e w' => e = .returned (.tuple #[.string ⟨t.toArray⟩, .int .i64 (n : Int)]) ∧ Below w.heap.size w w') := Lib.hid (fun w => HE.out w)
              obtain ⟨hn1, hn2, hn3⟩ := Hel.out t n rfl
              clear Hel
              have hn0 : ¬ ((n : Int) = 0) := by omega
              go_wp2_with (first
                | (go_at_call 38; refine (HP.out _).mono ?_; rintro e w3 ⟨rfl, rfl⟩)
                | (go_at_call 20; refine (HL.out _).mono ?_; rintro e w3 ⟨rfl, rfl⟩)
                | (go_at_call 21; refine (HK.out _).mono ?_; rintro e w3 ⟨rfl, rfl⟩)
                | (go_at_call 70; refine (HF.out _).mono ?_; rintro e w3 ⟨rfl, rfl⟩)
                | (go_at_call 71; refine (HE.out _).mono ?_; rintro e w3 ⟨rfl, hb3⟩)
                | (go_at_call 66; refine (writeList_any w.heap.size w.heap.size out t _ (hbld.keep hb3) (by omega) (Nat.le_trans hbel.size hb3.size)).mono ?_; rintro e w4 ⟨rfl, hbld2, hb4⟩))
              go_roundg (s.size - (k + n))
              case measure => omega
              case rel => exact ⟨k + n, f, out ++ t, by omega, by go_num, by omega, by simp; omega, HS, hbld2.bld, (hbel.trans (hb3.mono hbel.size)).trans hb4⟩
          · have h4 : ((s[k].toNat : Int) == 92) = false := by
              rw [beq_eq_false_iff_ne]
              intro e
              have e2 : s[k].toNat = 92 := by omega
              exact h3 (UInt8.toNat_inj.1 e2)
            have h5 : (s[k] == 92 && ([34] : List UInt8).headD 0 == 34) = false := by
              rw [beq_eq_false_iff_ne.2 h3]; rfl
            rw [h5, if_neg (by decide)] at HS
            clear h3 h5
            go_wp2_with (first
              | (go_at_call 38; refine (HP.out _).mono ?_; rintro e w3 ⟨rfl, rfl⟩)
              | (go_at_call 20; refine (HL.out _).mono ?_; rintro e w3 ⟨rfl, rfl⟩)
              | (go_at_call 21; refine (HK.out _).mono ?_; rintro e w3 ⟨rfl, rfl⟩)
              | (go_at_call 69; refine (writeByte_any w.heap.size w.heap.size out s[k] _ hbld (by omega) hbel.size).mono ?_; rintro e w3 ⟨rfl, hbld2, hb2⟩))
            go_roundg (s.size - (k + 1))
            case measure => omega
            case rel => exact ⟨k + 1, f, out ++ [s[k]], by omega, by go_num, by omega, by simp; omega, HS, hbld2.bld, hbel.trans hb2⟩
    · have hk8 : k = s.size := by omega
      have HC9 : Hid (C = .open_) := Lib.hid (HC.out.trans (by rw [List.drop_of_length_le (by rw [size_toList]; omega)]; match f with | 0 => rfl | _ + 1 => rfl))
      have h9 : s.size ≤ k := by omega
      clear HC hk8
      go_wp2
      rw [Exit.noGoto_ret]
      go_ret3
      rw [HC9.out]
      exact retC_open hbel
set_option maxRecDepth 100000 in
set_option maxHeartbeats 4000000 in
theorem content_s3 (s : ByteArray) (w : World) (h3 : 3 ≤ s.size) (hs : s.size ≤ 1099511627) :
    Calls Tryd.prog 42 #[.string s, .string ⟨#[39, 39, 39]⟩] w (RetC w (Tom.content [39, 39, 39] s.data.toList)) := by
  obtain ⟨C, hC⟩ : ∃ C, C = Tom.content [39, 39, 39] s.data.toList := ⟨_, rfl⟩
  rw [← hC]
  obtain ⟨k0, hk0⟩ : ∃ k, k = Tom.lineEnd (s.data.toList.drop 3) := ⟨_, rfl⟩
  have hk03 : 3 + k0 ≤ s.size := by
    have := Tom.lineEnd_le (s.data.toList.drop 3)
    rw [← hk0, List.length_drop, size_toList] at this
    omega
  have HC0 : Hid (C = Tom.contLoop [39, 39, 39] true (s.size + 1) (3 + k0) [] (s.data.toList.drop (3 + k0))) := Lib.hid (by rw [hC, hk0, ← size_toList]; rfl)
  have HL0 := lineEnd_from s 3 w
  rw [← hk0] at HL0
  have HL0 := Lib.hid HL0
  clear hC hk0
  go_enter Tryd.func42, Tryd.ntmps42
  go_wp2
  go_step3
  go_wp2_with (go_at_call 20; refine (HL0.out.mono ?_); rintro e w3 ⟨rfl, rfl⟩)
  go_step3
  go_wp2
  go_loopg [8] (s.size - (3 + k0)) (fun g i wr => ∃ (k f : Nat) (out : List UInt8), k + g = s.size ∧ i = .int .i64 k ∧ s.size - k < f ∧ out.length ≤ k ∧ Hid (C = Tom.contLoop [39, 39, 39] true f k out (s.data.toList.drop k)) ∧ Bld wr w.heap.size w.heap.size out ∧ Below w.heap.size w wr)
  case atStart =>
    exact ⟨3 + k0, s.size + 1, [], by omega, by go_num, by omega, by simp, HC0, Bld.fresh w, below_alloc _⟩
  case round =>
    obtain ⟨k, f, out, hg, rfl, hf, hol, HC, hbld, hbel⟩ := hrel
    by_cases hlt : k < s.size
    · obtain ⟨f, rfl⟩ : ∃ f', f = f' + 1 := ⟨f - 1, by omega⟩
      have e0 : s.data.toList.drop k = s[k] :: s.data.toList.drop (k + 1) := List.drop_eq_getElem_cons (by rw [size_toList]; exact hlt)
      have HS := Lib.hid (HC.out.trans (Tom.cont_round _ _ f k out _ _ e0))
      have HP := Lib.hid (fun w => prefix_from s ⟨#[39, 39, 39]⟩ k w)
      have HL := Lib.hid (fun w => lineEnd_from s k w)
      have HF := Lib.hid (fun w => folded_from s k w hlt (by omega))
      have HE := Lib.hid (fun w => escape_from s k w (by omega))
      have HK := Lib.hid (fun w => control_any s[k] w)
      have hle : Tom.lineEnd (s.data.toList.drop k) ≤ s.size - k := by
        have := Tom.lineEnd_le (s.data.toList.drop k)
        rwa [List.length_drop, size_toList] at this
      have hfl : Tom.folded (s.data.toList.drop k) ≤ s.size - k := by
        have := Tom.folded_le (s.data.toList.drop k) (by rw [e0]; simp)
        rwa [List.length_drop, size_toList] at this
      have hel : ∀ t n, Tom.escape (s.data.toList.drop k) = some (t, n) → 2 ≤ n ∧ n ≤ s.size - k ∧ t.length ≤ n := fun t n h => by
        have := Tom.escape_bd _ _ _ h
        rwa [List.length_drop, size_toList] at this
      have Hel := Lib.hid hel
      clear e0 HC hel
      generalize Tom.lineEnd (s.data.toList.drop k) = le at *
      generalize Tom.folded (s.data.toList.drop k) = fo at *
      generalize Tom.escape (s.data.toList.drop k) = es at *
      have ec : (⟨#[39, 39, 39]⟩ : ByteArray).data.toList = [39, 39, 39] := rfl
      rw [ec] at HP
      clear ec
      cases h1 : Tom.starts [39, 39, 39] (s.data.toList.drop k) with
      | true => 
        rw [h1, if_pos rfl] at HS
        rw [h1] at HP
        clear h1
        go_wp2_with (first
          | (go_at_call 38; refine (HP.out _).mono ?_; rintro e w3 ⟨rfl, rfl⟩))
        clear HP HL HF HE HK Hel hle hfl hf hg HL0 HC0 hk03 h3
        generalize decide (s.size ≤ k) = b99
        go_loopg [8, 100] 2 (fun g i j wr => ∃ (p m : Nat) (o : List UInt8), m + g = 2 ∧ i = .int .i64 p ∧ j = .int .i64 m ∧ p < s.size ∧ o.length ≤ p ∧ Hid (C = Tom.fin [39, 39, 39] true s.data.toList g p o) ∧ Bld wr w.heap.size w.heap.size o ∧ Below w.heap.size w wr)
        case atStart => exact ⟨k, 0, out, rfl, rfl, rfl, hlt, hol, HS, hbld, hbel⟩
        case round =>
          clear HS hbld hbel hol
          obtain ⟨k, m, o, hg, rfl, rfl, hlt, hol, HS, hbld, hbel⟩ := hrel
          by_cases hm : m < 2
          · obtain ⟨g, rfl⟩ : ∃ g', gk = g' + 1 := ⟨gk - 1, by omega⟩
            have HP := Lib.hid (fun w => prefix_from s ⟨#[39, 39, 39]⟩ (k + 1) w)
            have ec : (⟨#[39, 39, 39]⟩ : ByteArray).data.toList = [39, 39, 39] := rfl
            rw [ec] at HP
            clear ec
            have hS := HS.out
            unfold Tom.fin at hS
            cases h1 : Tom.starts [39, 39, 39] (s.data.toList.drop (k + 1)) with
            | true =>
              rw [h1] at hS HP
              have hl := Tom.starts_len h1
              rw [List.length_drop, size_toList] at hl
              have hl2 : k + 4 ≤ s.size := by simp at hl; omega
              have HS2 := Lib.hid hS
              clear hS HS h1 hl
              go_wp2_with (first
                | (go_at_call 38; refine (HP.out _).mono ?_; rintro e w3 ⟨rfl, rfl⟩)
                | (go_at_call 69; refine (writeByte_any w.heap.size w.heap.size o 39 _ hbld (by omega) hbel.size).mono ?_; rintro e w3 ⟨rfl, hbld2, hb2⟩))
              go_roundg g
              case measure => omega
              case rel => exact ⟨k + 1, m + 1, o ++ [39], by omega, by go_num, by go_num, by omega, by simp; omega, HS2, hbld2.bld, hbel.trans hb2⟩
            | false =>
              rw [h1] at hS HP
              have HS2 := Lib.hid hS
              clear hS HS h1
              go_wp2_with (first
                | (go_at_call 38; refine (HP.out _).mono ?_; rintro e w3 ⟨rfl, rfl⟩))
              go_roundg g
              case measure => omega
              case rel => exact ⟨k, m + 1, o, by omega, by go_num, by go_num, by omega, by omega, HS2, hbld, hbel⟩
          · obtain rfl : gk = 0 := by omega
            have HK3 : Hid (C = .ok o (k + 3)) := HS
            clear HS hg
            have hbs := hbel.size
            go_wp2_with (go_at_call 68; refine (string_any w.heap.size w.heap.size o _ hbld hbs).mono ?_; rintro e w3 ⟨rfl, hb3⟩)
            rw [Exit.noGoto_ret]
            go_ret3
            rw [HK3.out]
            exact retC_ok (o := o) (n := k + 3) (a := (k : Int) + 3) (by omega) (hbel.trans hb3)
      | false =>
        rw [h1, if_neg (by decide)] at HS
        rw [h1] at HP
        clear h1
        by_cases hl0 : 0 < le
        · have hl1 : ((0 : Int) < (le : Int)) := by omega
          rw [Bool.true_and, decide_eq_true hl0, if_pos rfl] at HS
          clear hl0
          go_wp2_with (first
            | (go_at_call 38; refine (HP.out _).mono ?_; rintro e w3 ⟨rfl, rfl⟩)
            | (go_at_call 20; refine (HL.out _).mono ?_; rintro e w3 ⟨rfl, rfl⟩)
            | (go_at_call 69; refine (writeByte_any w.heap.size w.heap.size out 10 _ hbld (by omega) hbel.size).mono ?_; rintro e w3 ⟨rfl, hbld2, hb2⟩))
          go_roundg (s.size - (k + le))
          case measure => omega
          case rel => exact ⟨k + le, f, out ++ [10], by omega, by go_num, by omega, by simp; omega, HS, hbld2.bld, hbel.trans hb2⟩
        · obtain rfl : le = 0 := by omega
          rw [Bool.true_and, if_neg (by decide)] at HS
          clear hl0
          cases h2 : Tom.control s[k] with
          | true =>
            rw [h2, if_pos rfl] at HS
            rw [h2] at HK
            clear h2
            go_wp2_with (first
              | (go_at_call 38; refine (HP.out _).mono ?_; rintro e w3 ⟨rfl, rfl⟩)
              | (go_at_call 20; refine (HL.out _).mono ?_; rintro e w3 ⟨rfl, rfl⟩)
              | (go_at_call 21; refine (HK.out _).mono ?_; rintro e w3 ⟨rfl, rfl⟩))
            rw [Exit.noGoto_ret]
            go_ret3
            rw [HS.out]
            exact retC_bad hbel
          | false =>
            rw [h2, if_neg (by decide)] at HS
            rw [h2] at HK
            clear h2
            by_cases h3 : s[k] = 92
            · rw [h3] at HS HK
              have h4 : ((s[k].toNat : Int) = 92) := by rw [h3]; rfl
              have h5 : ((92 : UInt8) == 92 && ([39, 39, 39] : List UInt8).headD 0 == 34) = false := by decide
              rw [h5, if_neg (by decide)] at HS
              have HK : Hid (∀ w : World, Calls Tryd.prog 21 #[.int .u8 92] w fun e w' => e = .returned (.bool false) ∧ w = w') := Lib.hid (fun w => HK.out w)
              clear h3 h5
              go_wp2_with (first
                | (go_at_call 38; refine (HP.out _).mono ?_; rintro e w3 ⟨rfl, rfl⟩)
                | (go_at_call 20; refine (HL.out _).mono ?_; rintro e w3 ⟨rfl, rfl⟩)
                | (go_at_call 21; refine (HK.out _).mono ?_; rintro e w3 ⟨rfl, rfl⟩)
                | (go_at_call 69; refine (writeByte_any w.heap.size w.heap.size out 92 _ hbld (by omega) hbel.size).mono ?_; rintro e w3 ⟨rfl, hbld2, hb2⟩))
              go_roundg (s.size - (k + 1))
              case measure => omega
              case rel => exact ⟨k + 1, f, out ++ [92], by omega, by go_num, by omega, by simp; omega, HS, hbld2.bld, hbel.trans hb2⟩
            · have h4 : ((s[k].toNat : Int) == 92) = false := by
                rw [beq_eq_false_iff_ne]
                intro e
                have e2 : s[k].toNat = 92 := by omega
                exact h3 (UInt8.toNat_inj.1 e2)
              have h5 : (s[k] == 92 && ([39, 39, 39] : List UInt8).headD 0 == 34) = false := by
                rw [beq_eq_false_iff_ne.2 h3]; rfl
              rw [h5, if_neg (by decide)] at HS
              clear h3 h5
              go_wp2_with (first
                | (go_at_call 38; refine (HP.out _).mono ?_; rintro e w3 ⟨rfl, rfl⟩)
                | (go_at_call 20; refine (HL.out _).mono ?_; rintro e w3 ⟨rfl, rfl⟩)
                | (go_at_call 21; refine (HK.out _).mono ?_; rintro e w3 ⟨rfl, rfl⟩)
                | (go_at_call 69; refine (writeByte_any w.heap.size w.heap.size out s[k] _ hbld (by omega) hbel.size).mono ?_; rintro e w3 ⟨rfl, hbld2, hb2⟩))
              go_roundg (s.size - (k + 1))
              case measure => omega
              case rel => exact ⟨k + 1, f, out ++ [s[k]], by omega, by go_num, by omega, by simp; omega, HS, hbld2.bld, hbel.trans hb2⟩
    · have hk8 : k = s.size := by omega
      have HC9 : Hid (C = .open_) := Lib.hid (HC.out.trans (by rw [List.drop_of_length_le (by rw [size_toList]; omega)]; match f with | 0 => rfl | _ + 1 => rfl))
      have h9 : s.size ≤ k := by omega
      clear HC hk8
      go_wp2
      rw [Exit.noGoto_ret]
      go_ret3
      rw [HC9.out]
      exact retC_open hbel
set_option maxRecDepth 100000 in
set_option maxHeartbeats 4000000 in
theorem content_s1 (s : ByteArray) (w : World) (h3 : 1 ≤ s.size) (hs : s.size ≤ 1099511627) :
    Calls Tryd.prog 42 #[.string s, .string ⟨#[39]⟩] w (RetC w (Tom.content [39] s.data.toList)) := by
  obtain ⟨C, hC⟩ : ∃ C, C = Tom.content [39] s.data.toList := ⟨_, rfl⟩
  rw [← hC]
  have HC0 : Hid (C = Tom.contLoop [39] false (s.size + 1) 1 [] (s.data.toList.drop 1)) := Lib.hid (by rw [hC, ← size_toList]; rfl)
  clear hC
  go_enter Tryd.func42, Tryd.ntmps42
  go_wp2
  go_step3
  go_wp2
  go_step3
  go_wp2
  go_loopg [8] (s.size - 1) (fun g i wr => ∃ (k f : Nat) (out : List UInt8), k + g = s.size ∧ i = .int .i64 k ∧ s.size - k < f ∧ out.length ≤ k ∧ Hid (C = Tom.contLoop [39] false f k out (s.data.toList.drop k)) ∧ Bld wr w.heap.size w.heap.size out ∧ Below w.heap.size w wr)
  case atStart =>
    exact ⟨1, s.size + 1, [], by omega, by go_num, by omega, by simp, HC0, Bld.fresh w, below_alloc _⟩
  case round =>
    obtain ⟨k, f, out, hg, rfl, hf, hol, HC, hbld, hbel⟩ := hrel
    by_cases hlt : k < s.size
    · obtain ⟨f, rfl⟩ : ∃ f', f = f' + 1 := ⟨f - 1, by omega⟩
      have e0 : s.data.toList.drop k = s[k] :: s.data.toList.drop (k + 1) := List.drop_eq_getElem_cons (by rw [size_toList]; exact hlt)
      have HS := Lib.hid (HC.out.trans (Tom.cont_round _ _ f k out _ _ e0))
      have HP := Lib.hid (fun w => prefix_from s ⟨#[39]⟩ k w)
      have HL := Lib.hid (fun w => lineEnd_from s k w)
      have HF := Lib.hid (fun w => folded_from s k w hlt (by omega))
      have HE := Lib.hid (fun w => escape_from s k w (by omega))
      have HK := Lib.hid (fun w => control_any s[k] w)
      have hle : Tom.lineEnd (s.data.toList.drop k) ≤ s.size - k := by
        have := Tom.lineEnd_le (s.data.toList.drop k)
        rwa [List.length_drop, size_toList] at this
      have hfl : Tom.folded (s.data.toList.drop k) ≤ s.size - k := by
        have := Tom.folded_le (s.data.toList.drop k) (by rw [e0]; simp)
        rwa [List.length_drop, size_toList] at this
      have hel : ∀ t n, Tom.escape (s.data.toList.drop k) = some (t, n) → 2 ≤ n ∧ n ≤ s.size - k ∧ t.length ≤ n := fun t n h => by
        have := Tom.escape_bd _ _ _ h
        rwa [List.length_drop, size_toList] at this
      have Hel := Lib.hid hel
      clear e0 HC hel
      generalize Tom.lineEnd (s.data.toList.drop k) = le at *
      generalize Tom.folded (s.data.toList.drop k) = fo at *
      generalize Tom.escape (s.data.toList.drop k) = es at *
      have ec : (⟨#[39]⟩ : ByteArray).data.toList = [39] := rfl
      rw [ec] at HP
      clear ec
      cases h1 : Tom.starts [39] (s.data.toList.drop k) with
      | true => 
        rw [h1, if_pos rfl] at HS
        rw [h1] at HP
        clear h1
        go_wp2_with (first
          | (go_at_call 38; refine (HP.out _).mono ?_; rintro e w3 ⟨rfl, rfl⟩))
        clear HP HL HF HE HK Hel hle hfl hf hg HC0 h3
        generalize decide (s.size ≤ k) = b99
        go_loopg [8, 100] 2 (fun g i j wr => ∃ (p m : Nat) (o : List UInt8), m + g = 2 ∧ i = .int .i64 p ∧ j = .int .i64 m ∧ p < s.size ∧ o.length ≤ p ∧ Hid (C = Tom.fin [39] false s.data.toList g p o) ∧ Bld wr w.heap.size w.heap.size o ∧ Below w.heap.size w wr)
        case atStart => exact ⟨k, 0, out, rfl, rfl, rfl, hlt, hol, HS, hbld, hbel⟩
        case round =>
          clear HS hbld hbel hol
          obtain ⟨k, m, o, hg, rfl, rfl, hlt, hol, HS, hbld, hbel⟩ := hrel
          by_cases hm : m < 2
          · obtain ⟨g, rfl⟩ : ∃ g', gk = g' + 1 := ⟨gk - 1, by omega⟩
            have HS2 : Hid (C = Tom.fin [39] false s.data.toList g k o) := Lib.hid (by rw [HS.out]; rfl)
            clear HS
            go_wp2
            go_roundg g
            case measure => omega
            case rel => exact ⟨k, m + 1, o, by omega, by go_num, by go_num, by omega, by omega, HS2, hbld, hbel⟩
          · obtain rfl : gk = 0 := by omega
            have HK3 : Hid (C = .ok o (k + 1)) := HS
            clear HS hg
            have hbs := hbel.size
            go_wp2_with (go_at_call 68; refine (string_any w.heap.size w.heap.size o _ hbld hbs).mono ?_; rintro e w3 ⟨rfl, hb3⟩)
            rw [Exit.noGoto_ret]
            go_ret3
            rw [HK3.out]
            exact retC_ok (o := o) (n := k + 1) (a := (k : Int) + 1) (by omega) (hbel.trans hb3)
      | false =>
        rw [h1, if_neg (by decide)] at HS
        rw [h1] at HP
        clear h1
        rw [Bool.false_and, if_neg (by decide)] at HS
        cases h2 : Tom.control s[k] with
        | true =>
          rw [h2, if_pos rfl] at HS
          rw [h2] at HK
          clear h2
          go_wp2_with (first
            | (go_at_call 38; refine (HP.out _).mono ?_; rintro e w3 ⟨rfl, rfl⟩)
            | (go_at_call 20; refine (HL.out _).mono ?_; rintro e w3 ⟨rfl, rfl⟩)
            | (go_at_call 21; refine (HK.out _).mono ?_; rintro e w3 ⟨rfl, rfl⟩))
          rw [Exit.noGoto_ret]
          go_ret3
          rw [HS.out]
          exact retC_bad hbel
        | false =>
          rw [h2, if_neg (by decide)] at HS
          rw [h2] at HK
          clear h2
          by_cases h3 : s[k] = 92
          · rw [h3] at HS HK
            have h4 : ((s[k].toNat : Int) = 92) := by rw [h3]; rfl
            have h5 : ((92 : UInt8) == 92 && ([39] : List UInt8).headD 0 == 34) = false := by decide
            rw [h5, if_neg (by decide)] at HS
            have HK : Hid (∀ w : World, Calls Tryd.prog 21 #[.int .u8 92] w fun e w' => e = .returned (.bool false) ∧ w = w') := Lib.hid (fun w => HK.out w)
            clear h3 h5
            go_wp2_with (first
              | (go_at_call 38; refine (HP.out _).mono ?_; rintro e w3 ⟨rfl, rfl⟩)
              | (go_at_call 20; refine (HL.out _).mono ?_; rintro e w3 ⟨rfl, rfl⟩)
              | (go_at_call 21; refine (HK.out _).mono ?_; rintro e w3 ⟨rfl, rfl⟩)
              | (go_at_call 69; refine (writeByte_any w.heap.size w.heap.size out 92 _ hbld (by omega) hbel.size).mono ?_; rintro e w3 ⟨rfl, hbld2, hb2⟩))
            go_roundg (s.size - (k + 1))
            case measure => omega
            case rel => exact ⟨k + 1, f, out ++ [92], by omega, by go_num, by omega, by simp; omega, HS, hbld2.bld, hbel.trans hb2⟩
          · have h4 : ((s[k].toNat : Int) == 92) = false := by
              rw [beq_eq_false_iff_ne]
              intro e
              have e2 : s[k].toNat = 92 := by omega
              exact h3 (UInt8.toNat_inj.1 e2)
            have h5 : (s[k] == 92 && ([39] : List UInt8).headD 0 == 34) = false := by
              rw [beq_eq_false_iff_ne.2 h3]; rfl
            rw [h5, if_neg (by decide)] at HS
            clear h3 h5
            go_wp2_with (first
              | (go_at_call 38; refine (HP.out _).mono ?_; rintro e w3 ⟨rfl, rfl⟩)
              | (go_at_call 20; refine (HL.out _).mono ?_; rintro e w3 ⟨rfl, rfl⟩)
              | (go_at_call 21; refine (HK.out _).mono ?_; rintro e w3 ⟨rfl, rfl⟩)
              | (go_at_call 69; refine (writeByte_any w.heap.size w.heap.size out s[k] _ hbld (by omega) hbel.size).mono ?_; rintro e w3 ⟨rfl, hbld2, hb2⟩))
            go_roundg (s.size - (k + 1))
            case measure => omega
            case rel => exact ⟨k + 1, f, out ++ [s[k]], by omega, by go_num, by omega, by simp; omega, HS, hbld2.bld, hbel.trans hb2⟩
    · have hk8 : k = s.size := by omega
      have HC9 : Hid (C = .open_) := Lib.hid (HC.out.trans (by rw [List.drop_of_length_le (by rw [size_toList]; omega)]; match f with | 0 => rfl | _ + 1 => rfl))
      have h9 : s.size ≤ k := by omega
      clear HC hk8
      go_wp2
      rw [Exit.noGoto_ret]
      go_ret3
      rw [HC9.out]
      exact retC_open hbel
end Go.Proofs.YtdhbljbfjdlcdaaDoor
