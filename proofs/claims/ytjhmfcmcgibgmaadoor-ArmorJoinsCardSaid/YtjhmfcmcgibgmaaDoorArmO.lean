/-
  armor.Unfold by its contract; ArmorFolds, ArmorJoins: true at every input.
-/
import Derived.Test.YtjhmfcmcgibgmaaDoorArmN
namespace Go.Proofs.YtjhmfcmcgibgmaaDoor
open Go.RowKit
def catB (l : List ByteArray) : List UInt8 := l.flatMap (·.data.toList)
theorem join_empty (l : List ByteArray) : Lib.join (l.map (·.data.toList)) [] = catB l := by
  cases l with
  | nil => rfl
  | cons s l =>
    show Lib.join (s.data.toList :: l.map (·.data.toList)) [] = _
    rw [Lib.join_cons]
    simp [Lib.joinTail, catB, List.flatMap]
    rfl
theorem catB_pieces (n : Nat) (hn : 0 < n) : ∀ (k : Nat) (l : List UInt8), l.length ≤ k → catB ((pieces n l).map bytesOf) = l
  | 0, l, h => by
    obtain rfl : l = [] := List.eq_nil_of_length_eq_zero (by omega)
    rw [pieces_nil]
    rfl
  | k + 1, l, h => by
    by_cases h0 : 0 < l.length
    · rw [pieces_cons n l h0 hn]
      have ih := catB_pieces n hn k (l.drop n) (by rw [List.length_drop]; omega)
      show (bytesOf (l.take n)).data.toList ++ catB ((pieces n (l.drop n)).map bytesOf) = l
      rw [ih]
      exact List.take_append_drop n l
    · obtain rfl : l = [] := List.eq_nil_of_length_eq_zero (by omega)
      rw [pieces_nil]
      rfl
set_option maxHeartbeats 1000000 in
theorem unfold_cells (g c : Nat) (xs : List ByteArray) (w : World) (hcells : ∀ (j : Nat) x, xs[j]? = some x → w.cell? ⟨g, j, none⟩ = some (.string x)) (hg : g < w.heap.size) (hN : xs.length ≤ 1048576) (hcap : xs.length ≤ c) (hlen : (catB xs).length ≤ 1048576) :
    Calls Tryd.prog 21 #[.slice (some ⟨g, 0, none⟩) xs.length c] w fun e w' => e = .returned (.string ⟨(catB xs).toArray⟩) ∧ Below w.heap.size w w' := by
  have hj : Lib.join (xs.map (·.data.toList)) (⟨#[]⟩ : ByteArray).data.toList = catB xs := join_empty xs
  have hcon := Tryd.strings_Join g 0 c xs ⟨#[]⟩ w (fun j x h => by rw [Nat.zero_add]; exact hcells j x h) hg (by omega) hcap (by rw [hj]; omega)
  rw [hj] at hcon
  have HC := Lib.hid hcon
  clear hcon hj hlen hcells
  go_enter Tryd.func21, Tryd.ntmps21
  go_wp2_with fail
  refine HC.out.mono ?_
  rintro e w1 ⟨rfl, hb1⟩
  go_wp2_with fail
  go_ret
  exact ⟨rfl, hb1⟩
set_option maxHeartbeats 1000000 in
theorem unfold_nil (w : World) : Calls Tryd.prog 21 #[.slice none 0 0] w fun e w' => e = .returned (.string ⟨#[]⟩) ∧ Below w.heap.size w w' := by
  go_enter Tryd.func21, Tryd.ntmps21
  go_wp2_with fail
  refine (Tryd.strings_Join_none none 0 ⟨#[]⟩ w).mono ?_
  rintro e w1 ⟨rfl, rfl⟩
  go_wp2_with fail
  go_ret
  exact ⟨rfl, Below.refl _ _⟩
theorem unfold_own (base : Nat) (v : Value) (xs : List ByteArray) (w : World) (hown : OwnT w base 9 v xs) (hN : xs.length ≤ 1048576) (hlen : (catB xs).length ≤ 1048576) :
    Calls Tryd.prog 21 #[v] w fun e w' => e = .returned (.string ⟨(catB xs).toArray⟩) ∧ Below w.heap.size w w' := by
  rcases hown.form with ⟨rfl, rfl⟩ | ⟨g, cap, rfl, hcap, hg, hgl⟩
  · exact unfold_nil w
  · exact unfold_cells g cap xs w (fun j x hx => hown.cell j x hx) hgl hN hcap hlen
theorem pieces_len (n : Nat) (hn : 0 < n) : ∀ (k : Nat) (l : List UInt8), l.length ≤ k → (pieces n l).length ≤ l.length
  | 0, l, h => by
    obtain rfl : l = [] := List.eq_nil_of_length_eq_zero (by omega)
    rw [pieces_nil]
    exact Nat.le_refl _
  | k + 1, l, h => by
    by_cases h0 : 0 < l.length
    · rw [pieces_cons n l h0 hn, List.length_cons]
      have ih := pieces_len n hn k (l.drop n) (by rw [List.length_drop]; omega)
      rw [List.length_drop] at ih
      omega
    · obtain rfl : l = [] := List.eq_nil_of_length_eq_zero (by omega)
      rw [pieces_nil]
      exact Nat.le_refl _
set_option maxRecDepth 100000 in
set_option maxHeartbeats 4000000 in
theorem armorFolds_any (s : ByteArray) (n : Int) (w : World) :
    Calls Tryd.prog 8 #[.string s, .int .i64 n] w fun e w' => e = .returned (.bool true) ∧ Below w.heap.size w w' := by
  by_cases hs : s.size ≤ 1000
  · by_cases hn : n < 1 ∨ 76 < n
    · have hF := fun w' => fold_bad s n w' hn
      have hR := fun w' => rfold_bad s n w' hn
      have HF := Lib.hid hF
      have HR := Lib.hid hR
      clear hF hR hn
      go_enter Tryd.func8, Tryd.ntmps8
      go_wp2_with fail
      refine (awake_any w).mono ?_
      rintro e w1 ⟨rfl, hb1⟩
      go_wp2_with fail
      refine (HF.out w1).mono ?_
      rintro e w2 ⟨rfl, rfl⟩
      go_wp2_with fail
      refine (HR.out w1).mono ?_
      rintro e w2 ⟨rfl, rfl⟩
      go_wp2_with fail
      generalize decide (1000 < (s.size : Int)) = b14
      go_loop [9] (fun i => i = .int .i64 0) (fun _ => 0)
      case atStart => rfl
      case round =>
        subst hrel
        go_wp2_with fail
        go_ret
        exact ⟨rfl, hb1⟩
    · obtain ⟨m, rfl⟩ : ∃ m : Nat, n = (m : Int) := ⟨n.toNat, by omega⟩
      have hF := fun w' => fold_any s m w' (by omega) (by omega) (by omega)
      have hR := fun w' => rfold_any s m w' (by omega) (by omega) (by omega)
      have hcat := catB_pieces m (by omega) s.size s.data.toList (by rw [size_toList]; exact Nat.le_refl _)
      have hpl := pieces_len m (by omega) s.size s.data.toList (by rw [size_toList]; exact Nat.le_refl _)
      rw [size_toList] at hpl
      obtain ⟨ps, hps⟩ : ∃ ps, ps = (pieces m s.data.toList).map bytesOf := ⟨_, rfl⟩
      have hpl2 : ps.length ≤ 1000 := by rw [hps, List.length_map]; omega
      rw [← hps] at hcat
      simp only [← hps] at hF hR
      have HF := Lib.hid hF
      have HR := Lib.hid hR
      have HC := Lib.hid hcat
      clear hF hR hn hcat hps hpl
      go_enter Tryd.func8, Tryd.ntmps8
      go_wp2_with fail
      refine (awake_any w).mono ?_
      rintro e w1 ⟨rfl, hb1⟩
      go_wp2_with fail
      refine (HF.out w1).mono ?_
      rintro e w2 ⟨v2, rfl, hA, hb2⟩
      go_wp2_with fail
      refine (HR.out w2).mono ?_
      rintro e w3 ⟨v3, rfl, hB, hb3⟩
      have hA3 := hA.keep hb3
      have hb := (hb1.trans (hb2.mono hb1.size)).trans (hb3.mono (by have := hb1.size; have := hb2.size; omega))
      clear hA hb1 hb2 hb3
      rcases hA3.form with ⟨rfl, h0⟩ | ⟨g, cap, rfl, hcap, hg, hgl⟩
      · rcases hB.form with ⟨rfl, _⟩ | ⟨g2, cap2, rfl, hcap2, hg2, hgl2⟩
        · have hse : s = ⟨#[]⟩ := by
            have h := HC.out
            rw [h0] at h
            exact Go.WideShapes.bytes_inj h.symm
          have HSE := Lib.hid hse
          have hb5 := hb
          clear hse h0 hA3 hB hb
          go_wp2_with fail
          generalize decide (1000 < (s.size : Int)) = b14
          go_loop [9] (fun i => i = .int .i64 0) (fun _ => 0)
          case atStart => rfl
          case round =>
            subst hrel
            go_wp2_with fail
            refine (unfold_nil w3).mono ?_
            rintro e w4 ⟨rfl, hb4⟩
            obtain rfl := HSE.out
            go_wp2_with fail
            go_ret
            exact ⟨rfl, hb5.trans (hb4.mono hb5.size)⟩
        · subst h0
          have hse : s = ⟨#[]⟩ := Go.WideShapes.bytes_inj HC.out.symm
          have HSE := Lib.hid hse
          have hb5 := hb
          clear hA3
          clear hse hB hb HC hpl2
          go_wp2_with fail
          generalize decide (1000 < (s.size : Int)) = b14
          go_loop [9] (fun i => i = .int .i64 0) (fun _ => 0)
          case atStart => rfl
          case round =>
            subst hrel
            go_wp2_with fail
            refine (unfold_nil w3).mono ?_
            rintro e w4 ⟨rfl, hb4⟩
            obtain rfl := HSE.out
            go_wp2_with fail
            go_ret
            exact ⟨rfl, hb5.trans (hb4.mono hb5.size)⟩
      · rcases hB.form with ⟨rfl, h0⟩ | ⟨g2, cap2, rfl, hcap2, hg2, hgl2⟩
        · subst h0
          have hse : s = ⟨#[]⟩ := Go.WideShapes.bytes_inj HC.out.symm
          have HSE := Lib.hid hse
          have hb5 := hb
          have HU := Lib.hid (unfold_own _ _ [] w3 hA3 (by decide) (by decide))
          clear hA3
          clear hse hB hb HC hpl2
          go_wp2_with fail
          generalize decide (1000 < (s.size : Int)) = b14
          go_loop [9] (fun i => i = .int .i64 0) (fun _ => 0)
          case atStart => rfl
          case round =>
            subst hrel
            go_wp2_with fail
            refine HU.out.mono ?_
            rintro e w4 ⟨rfl, hb4⟩
            obtain rfl := HSE.out
            go_wp2_with fail
            go_ret
            exact ⟨rfl, hb5.trans (hb4.mono hb5.size)⟩
        go_wp2_with fail
        generalize decide (1000 < (s.size : Int)) = b14
        go_loopw [9] (fun i wr => ∃ k : Nat, k ≤ ps.length ∧ i = .int .i64 k ∧ OwnT wr w2.heap.size 9 (.slice (some ⟨g2, 0, none⟩) ps.length cap2) ps ∧ OwnT wr w1.heap.size 9 (.slice (some ⟨g, 0, none⟩) ps.length cap) ps ∧ Below w.heap.size w wr) (fun i _ => ps.length - (intOf i).toNat)
        case atStart => exact ⟨0, by omega, rfl, hB, hA3, hb⟩
        case round =>
          clear hB hA3 hb
          obtain ⟨k, hk, rfl, hB, hA, hb⟩ := hrel
          by_cases hlt : k < ps.length
          · have cA := hA.cell k ps[k] (List.getElem?_eq_getElem hlt)
            have cB := hB.cell k ps[k] (List.getElem?_eq_getElem hlt)
            have e1 : (k : Int) < ps.length := by omega
            go_wp2_with fail
            go_quiet (fail)
            go_wp2_with fail
            go_roundw
            case rel => exact ⟨k + 1, by omega, by go_num, hB, hA, hb.trans (drewN_below (Below.refl _ _) _)⟩
            case measure => simp [intOf]; omega
          · have hU := unfold_own _ _ ps wr hA (by omega) (by rw [HC.out, size_toList]; omega)
            rw [HC.out, mk_toList s _ rfl] at hU
            have HU := Lib.hid hU
            clear hU hA hB
            go_wp2_with fail
            refine HU.out.mono ?_
            rintro e w4 ⟨rfl, hb4⟩
            go_wp2_with fail
            go_ret
            exact ⟨rfl, hb.trans (hb4.mono hb.size)⟩
  · go_enter Tryd.func8, Tryd.ntmps8
    go_wp2_with fail
    refine (awake_any w).mono ?_
    rintro e w1 ⟨rfl, hb1⟩
    go_wp2_with fail
    go_ret
    exact ⟨rfl, hb1⟩
end Go.Proofs.YtjhmfcmcgibgmaaDoor
