/-
  The reference's lexer: hex, unit by their contracts.
-/
import Derived.Test.YtjfkiomegacpeaaDoorLx0
import Derived.Test.YtjfkiomegacpeaaDoorJsE
namespace Go.Proofs.YtjfkiomegacpeaaDoor
open Go.RowKit
theorem dig_cases (c : UInt8) : (48 ≤ (c.toNat : Int) ∧ (c.toNat : Int) ≤ 57 ∧ Jsn.digit c = some (c.toNat - 48)) ∨ (97 ≤ (c.toNat : Int) ∧ (c.toNat : Int) ≤ 102 ∧ Jsn.digit c = some (c.toNat - 87)) ∨ (65 ≤ (c.toNat : Int) ∧ (c.toNat : Int) ≤ 70 ∧ Jsn.digit c = some (c.toNat - 55)) ∨
    (¬ (48 ≤ (c.toNat : Int) ∧ (c.toNat : Int) ≤ 57) ∧ ¬ (97 ≤ (c.toNat : Int) ∧ (c.toNat : Int) ≤ 102) ∧ ¬ (65 ≤ (c.toNat : Int) ∧ (c.toNat : Int) ≤ 70) ∧ Jsn.digit c = none) := by
  have h : ∀ n, n < 256 → (48 ≤ n ∧ n ≤ 57 ∧ Jsn.digit (UInt8.ofNat n) = some (n - 48)) ∨ (97 ≤ n ∧ n ≤ 102 ∧ Jsn.digit (UInt8.ofNat n) = some (n - 87)) ∨ (65 ≤ n ∧ n ≤ 70 ∧ Jsn.digit (UInt8.ofNat n) = some (n - 55)) ∨ (¬ (48 ≤ n ∧ n ≤ 57) ∧ ¬ (97 ≤ n ∧ n ≤ 102) ∧ ¬ (65 ≤ n ∧ n ≤ 70) ∧ Jsn.digit (UInt8.ofNat n) = none) := by decide +kernel
  have h2 := h c.toNat (UInt8.toNat_lt c)
  rw [UInt8.ofNat_toNat] at h2
  rcases h2 with ⟨a, b, d⟩ | ⟨a, b, d⟩ | ⟨a, b, d⟩ | ⟨a, b, e, d⟩
  · exact .inl ⟨by omega, by omega, d⟩
  · exact .inr (.inl ⟨by omega, by omega, d⟩)
  · exact .inr (.inr (.inl ⟨by omega, by omega, d⟩))
  · exact .inr (.inr (.inr ⟨by omega, by omega, by omega, d⟩))
theorem hexNum_step (n v : Nat) (c : UInt8) (l : List UInt8) : Jsn.hexNum (n + 1) v (c :: l) = match Jsn.digit c with | some d => Jsn.hexNum n (16 * v + d) l | none => none := rfl
theorem hexNum_short : ∀ (n v : Nat) (l : List UInt8), l.length < n → Jsn.hexNum n v l = none
  | 0, _, _, h => absurd h (Nat.not_lt_zero _)
  | _ + 1, _, [], _ => rfl
  | n + 1, v, c :: l, h => by
    rw [hexNum_step]
    cases Jsn.digit c with
    | none => rfl
    | some d => exact hexNum_short n _ l (by rw [List.length_cons] at h; omega)
set_option maxRecDepth 100000 in
set_option maxHeartbeats 4000000 in
theorem lhex_any (g : Nat) (s : ByteArray) (i : Nat) (tv nv : Value) (er a : Int) (p : Nat) (w : World) (h : LxB w g s i tv nv er a) (hs : s.size ≤ 65536) (hp : p ≤ 1000000) :
    Calls Tryd.prog 73 #[.pointer (some ⟨g, 0, none⟩), .int .i64 (p : Int)] w fun r w' => r = .returned (.int .i64 (unitI (Jsn.hexNum 4 0 (s.data.toList.drop p)))) ∧ Below w.heap.size w w' := by
  obtain ⟨c0, -, -, -, -, -⟩ := h.cells
  obtain ⟨V, hV⟩ : ∃ V, V = Jsn.hexNum 4 0 (s.data.toList.drop p) := ⟨_, rfl⟩
  rw [← hV]
  by_cases hsz : p + 4 ≤ s.size
  · have b1 : ¬ (s.size : Int) < (p : Int) + 4 := by omega
    have HV := Lib.hid hV
    clear hV
    go_enter Tryd.func73, Tryd.ntmps73
    go_wp2_with fail
    go_loopg [5, 6, 7] 4 (fun gg nv2 iv cv wr => ∃ (j v q : Nat), j + gg = 4 ∧ q ≤ p + j ∧ p + j ≤ q ∧ iv = .int .i64 (q : Int) ∧ nv2 = .int .i64 (v : Int) ∧ v < 16 ^ j ∧ Hid (V = Jsn.hexNum gg v (s.data.toList.drop q)) ∧ w = wr)
    case atStart => exact ⟨0, 0, p, rfl, by omega, by omega, rfl, rfl, by decide, HV, rfl⟩
    case round =>
      clear HV
      obtain ⟨j, v, q, hj, hq1, hq2, rfl, rfl, hv, HV, rfl⟩ := hrel
      by_cases h4 : gk = 0
      · subst h4
        have hV2 : V = some v := HV.out
        have hj4 : j = 4 := by omega
        have hq4 : ¬ (q : Int) < (p : Int) + 4 := by omega
        subst hV2
        clear HV hj hj4 hv
        go_wp2_with fail
        go_ret
        exact ⟨rfl, Below.refl _ _⟩
      · obtain ⟨m, rfl⟩ : ∃ m, gk = m + 1 := ⟨gk - 1, by omega⟩
        have hq4 : (q : Int) < (p : Int) + 4 := by omega
        have hqs : q < s.size := by omega
        have hv2 : v ≤ 4095 := by
          have : j ≤ 3 := by omega
          have h16 : 16 ^ j ≤ 16 ^ 3 := Nat.pow_le_pow_right (by decide) this
          have : (16 : Nat) ^ 3 = 4096 := by decide
          omega
        have hst := HV.out
        rw [drop_at s q hqs, hexNum_step] at hst
        have hpw : 16 ^ (j + 1) = 16 * 16 ^ j := by rw [Nat.pow_succ, Nat.mul_comm]
        rcases dig_cases s[q] with ⟨d1, d2, d3⟩ | ⟨d1, d2, d3⟩ | ⟨d1, d2, d3⟩ | ⟨d1, d2, d3, d4⟩
        · rw [d3] at hst
          have HV2 : Hid (V = Jsn.hexNum m (16 * v + (s[q].toNat - 48)) (s.data.toList.drop (q + 1))) := Lib.hid hst
          have hlt : 16 * v + (s[q].toNat - 48) < 16 ^ (j + 1) := by omega
          clear HV hst d3 hpw
          go_wp2_with fail
          go_roundg m
          case measure => omega
          case rel => exact ⟨j + 1, 16 * v + (s[q].toNat - 48), q + 1, by omega, by omega, by omega, by go_num, by go_num, hlt, HV2, rfl⟩
        · rw [d3] at hst
          have HV2 : Hid (V = Jsn.hexNum m (16 * v + (s[q].toNat - 87)) (s.data.toList.drop (q + 1))) := Lib.hid hst
          have hlt : 16 * v + (s[q].toNat - 87) < 16 ^ (j + 1) := by omega
          clear HV hst d3 hpw
          go_wp2_with fail
          go_roundg m
          case measure => omega
          case rel => exact ⟨j + 1, 16 * v + (s[q].toNat - 87), q + 1, by omega, by omega, by omega, by go_num, by go_num, hlt, HV2, rfl⟩
        · rw [d3] at hst
          have HV2 : Hid (V = Jsn.hexNum m (16 * v + (s[q].toNat - 55)) (s.data.toList.drop (q + 1))) := Lib.hid hst
          have hlt : 16 * v + (s[q].toNat - 55) < 16 ^ (j + 1) := by omega
          clear HV hst d3 hpw
          go_wp2_with fail
          go_roundg m
          case measure => omega
          case rel => exact ⟨j + 1, 16 * v + (s[q].toNat - 55), q + 1, by omega, by omega, by omega, by go_num, by go_num, hlt, HV2, rfl⟩
        · rw [d4] at hst
          have hV2 : V = none := hst
          subst hV2
          clear HV hst d4 hpw
          go_wp2_with fail
          all_goals first
            | (exfalso; omega)
            | (go_ret; exact ⟨rfl, Below.refl _ _⟩)
  · have b1 : (s.size : Int) < (p : Int) + 4 := by omega
    have hV2 : V = none := by rw [hV]; exact hexNum_short 4 0 _ (by rw [List.length_drop, size_toList]; omega)
    subst hV2
    clear hV
    go_enter Tryd.func73, Tryd.ntmps73
    go_wp2_with fail
    go_ret
    exact ⟨rfl, Below.refl _ _⟩
set_option maxRecDepth 100000 in
set_option maxHeartbeats 4000000 in
theorem lunit_any (g : Nat) (s : ByteArray) (i : Nat) (tv nv : Value) (er a : Int) (p : Nat) (w : World) (h : LxB w g s i tv nv er a) (hs : s.size ≤ 65536) (hp : p ≤ 100000) :
    Calls Tryd.prog 63 #[.pointer (some ⟨g, 0, none⟩), .int .i64 (p : Int)] w fun r w' => r = .returned (.int .i64 (unitI (Jsn.unit (s.data.toList.drop p)))) ∧ Below w.heap.size w w' := by
  obtain ⟨c0, -, -, -, -, -⟩ := h.cells
  have HX := Lib.hid (fun w1 (hb : Below w.heap.size w w1) => lhex_any g s i tv nv er a (p + 2) w1 (h.keep hb) hs (by omega))
  have hwr : IntKind.i64.wrap ((p : Int) + 2) = (p : Int) + 2 := IntWalk.i64_in _ (by omega)
  by_cases hsz : p + 2 ≤ s.size
  · have e0 : ((s.extract p (p + 2)).toList == [92, 117]) = h2 92 117 (s.data.toList.drop p) := by
      rw [← h2_at hsz 92 117, toList_eq ⟨#[92, 117]⟩]
    have b0 : decide ((s.size : Int) < (p : Int) + 2) = false := decide_eq_false (by omega)
    have b1 : (p : Int) + 2 ≤ (s.size : Int) := by omega
    have b2 : (p : Int) ≤ (p : Int) + 2 := by omega
    have b3 : 0 ≤ (p : Int) + 2 := by omega
    have b4 : ((p : Int) + 2).toNat = p + 2 := by omega
    have hun : Jsn.unit (s.data.toList.drop p) = if h2 92 117 (s.data.toList.drop p) then Jsn.hexNum 4 0 (s.data.toList.drop (p + 2)) else none := by
      rw [drop_at s p (by omega), drop_at s (p + 1) (by omega)]
      by_cases h1 : s[p] = 92
      · by_cases h3 : s[p + 1] = 117
        · rw [h1, h3]; rfl
        · have : h2 92 117 (s[p] :: s[p + 1] :: s.data.toList.drop (p + 1 + 1)) = false := by
            show (s[p] == 92 && s[p + 1] == 117) = false
            rw [beq_eq_false_iff_ne.2 h3, Bool.and_false]
          rw [this]
          unfold Jsn.unit
          split
          · rename_i heq
            injection heq with _ e2
            injection e2 with e3 _
            exact absurd e3 h3
          · rfl
      · have : h2 92 117 (s[p] :: s[p + 1] :: s.data.toList.drop (p + 1 + 1)) = false := by
          show (s[p] == 92 && s[p + 1] == 117) = false
          rw [beq_eq_false_iff_ne.2 h1, Bool.false_and]
        rw [this]
        unfold Jsn.unit
        split
        · rename_i heq
          injection heq with e2 _
          exact absurd e2 h1
        · rfl
    rw [hun]
    cases hh : h2 92 117 (s.data.toList.drop p) with
    | true =>
      rw [hh] at e0
      simp only [if_true]
      have en : (!((s.extract p (p + 2)).toList == [92, 117])) = false := by rw [e0]; rfl
      have HX2 : Hid (∀ w1, Below w.heap.size w w1 → Calls Tryd.prog 73 #[.pointer (some ⟨g, 0, none⟩), .int .i64 ((p : Int) + 2)] w1 fun r w' => r = .returned (.int .i64 (unitI (Jsn.hexNum 4 0 (s.data.toList.drop (p + 2))))) ∧ Below w1.heap.size w1 w') := HX
      generalize unitI (Jsn.hexNum 4 0 (s.data.toList.drop (p + 2))) = U at *
      clear HX hun hh
      go_enter Tryd.func63, Tryd.ntmps63
      go_wp2_with (go_at_call 73; refine (HX2.out _ (Below.refl _ _)).mono ?_; rintro e w5 ⟨rfl, hb5⟩)
      go_ret
      exact ⟨rfl, hb5⟩
    | false =>
      rw [hh] at e0
      simp only [Bool.false_eq_true, if_false]
      have en : (!((s.extract p (p + 2)).toList == [92, 117])) = true := by rw [e0]; rfl
      clear HX hun hh
      go_enter Tryd.func63, Tryd.ntmps63
      go_wp2_with fail
      go_ret
      exact ⟨rfl, Below.refl _ _⟩
  · have b0 : decide ((s.size : Int) < (p : Int) + 2) = true := decide_eq_true (by omega)
    have hun : Jsn.unit (s.data.toList.drop p) = none := by
      have hl : (s.data.toList.drop p).length ≤ 1 := by rw [List.length_drop, size_toList]; omega
      match s.data.toList.drop p, hl with
      | [], _ => rfl
      | [x], _ => unfold Jsn.unit; split; (rename_i heq; injection heq with _ e2; cases e2); rfl
      | _ :: _ :: _, h => simp at h
    rw [hun]
    clear HX hun
    go_enter Tryd.func63, Tryd.ntmps63
    go_wp2_with fail
    go_ret
    exact ⟨rfl, Below.refl _ _⟩
end Go.Proofs.YtjfkiomegacpeaaDoor
