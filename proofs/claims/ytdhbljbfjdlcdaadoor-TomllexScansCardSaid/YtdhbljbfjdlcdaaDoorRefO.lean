/-
  The reference's one by its contract: the token at an offset. Laid by wip/gen/refone.py.
-/
import Derived.Test.YtdhbljbfjdlcdaaDoorRefT
import Derived.Test.YtdhbljbfjdlcdaaDoorTomO
namespace Tom
theorem starts_one (q c : UInt8) (r : List UInt8) : starts [q] (c :: r) = (q == c) := by
  simp [starts, List.isPrefixOf]
end Tom
namespace Go.Proofs.YtdhbljbfjdlcdaaDoor
open Go.RowKit
def RetR (a : Nat) (w : World) : Tom.Tok → Go.Ending → World → Prop
  | .ok k n t, e, w' => e = .returned (.tuple #[.agg #[.int .i64 (k : Int), .int .i64 (a : Int), .int .i64 ((a + n : Nat) : Int), .string ⟨t.toArray⟩], .int .i64 (-1)]) ∧ Below w.heap.size w w'
  | .bad n, e, w' => (∃ (k f m : Int) (t : ByteArray), e = .returned (.tuple #[.agg #[.int .i64 k, .int .i64 f, .int .i64 m, .string t], .int .i64 ((a + n : Nat) : Int)])) ∧ Below w.heap.size w w'
theorem RetR.ok {a : Nat} {w w' : World} {k n : Nat} {t : List UInt8} {x : ByteArray} {K M N : Int} (hk : K = k) (hm : M = a) (hn : N = ((a + n : Nat) : Int)) (hx : x.data.toList = t) (hb : Below w.heap.size w w') :
    RetR a w (.ok k n t) (.returned (.tuple #[.agg #[.int .i64 K, .int .i64 M, .int .i64 N, .string x], .int .i64 (-1)])) w' := by
  subst hk; subst hn; subst hm; subst hx; exact ⟨rfl, hb⟩
theorem RetR.bad {a : Nat} {w w' : World} {n : Nat} {k f m N : Int} {t : ByteArray} (hn : N = ((a + n : Nat) : Int)) (hb : Below w.heap.size w w') :
    RetR a w (.bad n) (.returned (.tuple #[.agg #[.int .i64 k, .int .i64 f, .int .i64 m, .string t], .int .i64 N])) w' := by
  subst hn; exact ⟨⟨k, f, m, t, rfl⟩, hb⟩
theorem retR_cont {a : Nat} {w w' : World} (k : Nat) (C : Tom.Cont) {tx : ByteArray} {ln bd : Int} (h : (tx, ln, bd) = contV a (C.sh a)) (hb : Below w.heap.size w w') :
    RetR a w (tokOf k C) (.returned (.tuple #[.agg #[.int .i64 (k : Int), .int .i64 (a : Int), .int .i64 ln, .string tx], .int .i64 bd])) w' := by
  cases C with
  | ok t n =>
    simp only [Tom.Cont.sh, contV, Prod.mk.injEq] at h
    obtain ⟨rfl, rfl, rfl⟩ := h
    exact RetR.ok rfl rfl (by omega) rfl hb
  | bad n =>
    simp only [Tom.Cont.sh, contV, Prod.mk.injEq] at h
    obtain ⟨rfl, rfl, rfl⟩ := h
    exact RetR.bad (by omega) hb
  | open_ =>
    simp only [Tom.Cont.sh, contV, Prod.mk.injEq] at h
    obtain ⟨rfl, rfl, rfl⟩ := h
    exact RetR.bad (by omega) hb
def isPunct (c : UInt8) : Bool := ([91, 93, 123, 125, 44, 61, 46] : List UInt8).contains c
theorem punct_of (c : UInt8) (h : isPunct c = true) : (c.toNat : Int) = 91 ∨ (c.toNat : Int) = 93 ∨ (c.toNat : Int) = 123 ∨ (c.toNat : Int) = 125 ∨ (c.toNat : Int) = 44 ∨ (c.toNat : Int) = 61 ∨ (c.toNat : Int) = 46 := by
  revert c
  refine bytes_all ?_
  decide +kernel
theorem punct_no (c : UInt8) (h : isPunct c = false) : ((c.toNat : Int) == 91) = false ∧ ((c.toNat : Int) == 93) = false ∧ ((c.toNat : Int) == 123) = false ∧ ((c.toNat : Int) == 125) = false ∧ ((c.toNat : Int) == 44) = false ∧ ((c.toNat : Int) == 61) = false ∧ ((c.toNat : Int) == 46) = false := by
  revert c
  refine bytes_all ?_
  decide +kernel
set_option maxRecDepth 100000 in
set_option maxHeartbeats 4000000 in
theorem one_line (s : ByteArray) (a : Nat) (w : World) (ha : a < s.size) (hs : s.size ≤ 1099511627) (n : Nat) (hn : 0 < n) (hl : n = Tom.lineEnd (s.data.toList.drop a)) (hna : a + n ≤ s.size) :
    Calls Tryd.prog 26 #[.string s, .int .i64 a] w (RetR a w (.ok 1 n [])) := by
  have HL := Lib.hid (fun w => rlineEnd_any s a w (by omega) (by omega))
  rw [← hl] at HL
  clear hl
  have h0 : (0 : Int) < n := by omega
  go_enter Tryd.func26, Tryd.ntmps26
  go_wp2_with (first
    | (go_at_call 24; refine ((HL.out _).mono ?_); rintro e w3 ⟨rfl, rfl⟩))
  refine bodyPost_ret (v := .tuple #[.agg #[.int .i64 1, .int .i64 a, .int .i64 ((a : Int) + n), .string ⟨#[]⟩], .int .i64 (-1)]) (by simp [results, Tryd.results26, go_sem]) rfl ?_
  exact RetR.ok rfl rfl (by omega) rfl (below_alloc _)
set_option maxRecDepth 100000 in
set_option maxHeartbeats 4000000 in
theorem one_punct (s : ByteArray) (a : Nat) (w : World) (ha : a < s.size) (hs : s.size ≤ 1099511627) (hl : 0 = Tom.lineEnd (s.data.toList.drop a)) (hp : isPunct s[a] = true) :
    Calls Tryd.prog 26 #[.string s, .int .i64 a] w (RetR a w (.ok 2 1 [s[a]])) := by
  have HL := Lib.hid (fun w => rlineEnd_any s a w (by omega) (by omega))
  rw [← hl] at HL
  have hp2 := punct_of s[a] hp
  have HE := Lib.hid (ext_one s a ha)
  clear hl hp
  have g1 : (a : Int) ≤ (a : Int) + 1 := by omega
  have g2 : (a : Int) + 1 ≤ s.size := by omega
  have g3 : 0 ≤ (a : Int) := by omega
  have g4 : ((a : Int) + 1).toNat = a + 1 := by omega
  generalize hcv : (s[a].toNat : Int) = cv at *
  go_enter Tryd.func26, Tryd.ntmps26
  go_wp2_with (first
    | (go_at_call 24; refine ((HL.out _).mono ?_); rintro e w3 ⟨rfl, rfl⟩))
  all_goals first
    | (exfalso; simp only [beq_iff_eq, beq_eq_false_iff_ne, ne_eq] at *; omega)
    | skip
  all_goals
    refine bodyPost_ret (v := .tuple #[.agg #[.int .i64 2, .int .i64 a, .int .i64 ((a : Int) + 1), .string (s.extract a (a + 1))], .int .i64 (-1)]) (by simp [results, Tryd.results26, go_sem]) rfl ?_
    exact RetR.ok rfl rfl (by omega) HE.out (below_alloc _)
set_option maxRecDepth 100000 in
set_option maxHeartbeats 4000000 in
theorem one_bare (s : ByteArray) (a : Nat) (w : World) (ha : a < s.size) (hs : s.size ≤ 1099511627) (hl : 0 = Tom.lineEnd (s.data.toList.drop a)) (hp : isPunct s[a] = false) (hb : Tom.bare s[a] = true) :
    Calls Tryd.prog 26 #[.string s, .int .i64 a] w (RetR a w (.ok 3 (Tom.run Tom.bare (s.data.toList.drop a)) ((s.data.toList.drop a).take (Tom.run Tom.bare (s.data.toList.drop a))))) := by
  have HL := Lib.hid (fun w => rlineEnd_any s a w (by omega) (by omega))
  rw [← hl] at HL
  obtain ⟨c1, c2, c3, c4, c5, c6, c7⟩ := punct_no s[a] hp
  have HB := fun w => rbare_any s[a] w
  rw [hb] at HB
  have HB := Lib.hid HB
  obtain ⟨n, hn⟩ : ∃ n, n = Tom.run Tom.bare (s.data.toList.drop a) := ⟨_, rfl⟩
  have hns : a + n ≤ s.size := by
    have := Tom.run_le Tom.bare (s.data.toList.drop a)
    rw [← hn, List.length_drop, size_toList] at this
    omega
  rw [← hn]
  have HN : Hid (a + n = a + Tom.run Tom.bare (s.data.toList.drop a)) := Lib.hid (by omega)
  have HQ := Lib.hid (fun c w => rbare_any c w)
  clear hl hp hb hn
  go_enter Tryd.func26, Tryd.ntmps26
  go_wp2_with (first
    | (go_at_call 24; refine ((HL.out _).mono ?_); rintro e w3 ⟨rfl, rfl⟩)
    | (go_at_call 44; refine ((HB.out _).mono ?_); rintro e w3 ⟨rfl, rfl⟩))
  clear HL HB
  clear c1 c2 c3 c4 c5 c6 c7
  generalize (s[a].toNat : Int) = cv at *
  go_loop [8] (fun i => ∃ j : Nat, a ≤ j ∧ j ≤ s.size ∧ i = .int .i64 j ∧ Hid (a + n = j + Tom.run Tom.bare (s.data.toList.drop j))) (fun i => s.size - (intOf i).toNat)
  case atStart => exact ⟨a, by omega, by omega, rfl, HN⟩
  case round =>
    clear HN
    obtain ⟨j, haj, hjs, rfl, HM⟩ := hrel
    by_cases hj : j < s.size
    · have e1 : s.data.toList.drop j = s[j] :: s.data.toList.drop (j + 1) := List.drop_eq_getElem_cons (by rw [size_toList]; exact hj)
      have hM := HM.out
      rw [e1, Tom.run_cons] at hM
      have HB := fun w => HQ.out s[j] w
      cases hb : Tom.bare s[j] with
      | true =>
        rw [hb] at hM HB
        rw [if_pos rfl] at hM
        have HM2 : Hid (a + n = (j + 1) + Tom.run Tom.bare (s.data.toList.drop (j + 1))) := Lib.hid (by omega)
        have HB := Lib.hid HB
        clear hM HM e1 hb
        go_wp2_with ((go_at_call 44; refine ((HB.out _).mono ?_); rintro e w3 ⟨rfl, rfl⟩))
        go_round
        case rel => exact ⟨j + 1, by omega, by omega, by go_num, HM2⟩
        case measure => simp [intOf]; omega
      | false =>
        rw [hb] at hM HB
        rw [if_neg (by simp)] at hM
        have HB := Lib.hid HB
        obtain rfl : j = a + n := by omega
        clear hM HM e1 hb
        have g1 : (a : Int) ≤ (a : Int) + (n : Int) := by omega
        have g2 : (a : Int) + (n : Int) ≤ s.size := by omega
        have g4 : ((a : Int) + (n : Int)).toNat = a + n := by omega
        go_wp2_with ((go_at_call 44; refine ((HB.out _).mono ?_); rintro e w3 ⟨rfl, rfl⟩))
        refine bodyPost_ret (v := .tuple #[.agg #[.int .i64 3, .int .i64 a, .int .i64 ((a : Int) + n), .string (s.extract a (a + n))], .int .i64 (-1)]) (by simp [results, Tryd.results26, go_sem]) rfl ?_
        exact RetR.ok rfl rfl (by omega) (by rw [ext_part]) (below_alloc _)
    · obtain rfl : j = a + n := by
        have hM := HM.out
        rw [List.drop_of_length_le (by rw [size_toList]; omega), Tom.run_nil] at hM
        omega
      clear HM
      have g1 : (a : Int) ≤ (a : Int) + (n : Int) := by omega
      have g2 : (a : Int) + (n : Int) ≤ s.size := by omega
      have g4 : ((a : Int) + (n : Int)).toNat = a + n := by omega
      go_wp2
      refine bodyPost_ret (v := .tuple #[.agg #[.int .i64 3, .int .i64 a, .int .i64 ((a : Int) + n), .string (s.extract a (a + n))], .int .i64 (-1)]) (by simp [results, Tryd.results26, go_sem]) rfl ?_
      exact RetR.ok rfl rfl (by omega) (by rw [ext_part]) (below_alloc _)
set_option maxRecDepth 100000 in
set_option maxHeartbeats 4000000 in
theorem one_d3 (s : ByteArray) (a : Nat) (w : World) (ha : a < s.size) (hs : s.size ≤ 1099511627) (hl : 0 = Tom.lineEnd (s.data.toList.drop a)) (h0 : s[a] = 34) (hq : Tom.starts [34, 34, 34] (s.data.toList.drop a) = true) :
    Calls Tryd.prog 26 #[.string s, .int .i64 a] w (RetR a w (tokOf 6 (Tom.content [34, 34, 34] (s.data.toList.drop a)))) := by
  have HL := Lib.hid (fun w => rlineEnd_any s a w (by omega) (by omega))
  rw [← hl] at HL
  have HB : Hid (∀ w : World, Calls Tryd.prog 44 #[.int .u8 34] w fun e w' => e = .returned (.bool false) ∧ w = w') := Lib.hid (fun w => rbare_any 34 w)
  have e0 : s.data.toList.drop a = s[a] :: s.data.toList.drop (a + 1) := List.drop_eq_getElem_cons (by rw [size_toList]; exact ha)
  have HD := fun w => rhas_any s ⟨#[34, 34, 34]⟩ a w (by omega) (by omega) (by decide)
  rw [show (⟨#[34, 34, 34]⟩ : ByteArray).data.toList = [34, 34, 34] from rfl, hq] at HD
  have HD := Lib.hid HD
  have n0 : ((s[a].toNat : Int) = 34) := by rw [h0]; rfl
  have hsz : a + (⟨#[34, 34, 34]⟩ : ByteArray).size ≤ s.size := by
    have := Tom.starts_len hq; rw [List.length_drop, size_toList] at this; show a + 3 ≤ s.size; simp at this; omega
  have HC := fun w => rtext_me s ⟨#[34, 34, 34]⟩ a w hsz (by decide) (by decide) hs (by decide)
  have ec := Tom.contAt_eq [34, 34, 34] s.data.toList a
  rw [show ((([34, 34, 34] : List UInt8).length == 3) = true) from rfl] at ec
  rw [show (⟨#[34, 34, 34]⟩ : ByteArray).data.toList = [34, 34, 34] from rfl, ec] at HC
  obtain ⟨C, hC⟩ : ∃ C, C = Tom.content [34, 34, 34] (s.data.toList.drop a) := ⟨_, rfl⟩
  rw [← hC] at HC ⊢
  unfold RetX at HC
  have HR := fun (w' : World) (tx : ByteArray) (ln bd : Int) (h : (tx, ln, bd) = contV a (C.sh a)) (hb : Below w.heap.size w w') => retR_cont 6 C h hb
  obtain ⟨⟨tx, ln, bd⟩, hco⟩ : ∃ x, x = contV a (C.sh a) := ⟨_, rfl⟩
  rw [← hco] at HC HR
  have HR := Lib.hid (fun w' hb => HR w' tx ln bd rfl hb)
  have HC : Hid (∀ w : World, Calls Tryd.prog 46 #[.string s, .int .i64 a, .string ⟨#[34, 34, 34]⟩, .bool true, .bool true] w fun e w' => e = .returned (.tuple #[.string tx, .int .i64 ln, .int .i64 bd]) ∧ w = w') := Lib.hid HC
  clear hl h0 hC hco hq e0 hsz ec
  go_enter Tryd.func26, Tryd.ntmps26
  go_wp2_with fail
  refine (HL.out _).mono ?_
  rintro e w3 ⟨rfl, rfl⟩
  go_wp2_with fail
  refine (HB.out _).mono ?_
  rintro e w3 ⟨rfl, rfl⟩
  go_wp2_with fail
  refine (HD.out _).mono ?_
  rintro e w3 ⟨rfl, rfl⟩
  go_wp2_with fail
  refine (HC.out _).mono ?_
  rintro e w3 ⟨rfl, rfl⟩
  go_wp2_with fail
  refine bodyPost_ret (v := .tuple #[.agg #[.int .i64 6, .int .i64 a, .int .i64 ln, .string tx], .int .i64 bd]) (by simp [results, Tryd.results26, go_sem]) rfl ?_
  exact HR.out _ (below_alloc _)
set_option maxRecDepth 100000 in
set_option maxHeartbeats 4000000 in
theorem one_s3 (s : ByteArray) (a : Nat) (w : World) (ha : a < s.size) (hs : s.size ≤ 1099511627) (hl : 0 = Tom.lineEnd (s.data.toList.drop a)) (h0 : s[a] = 39) (hq : Tom.starts [39, 39, 39] (s.data.toList.drop a) = true) :
    Calls Tryd.prog 26 #[.string s, .int .i64 a] w (RetR a w (tokOf 7 (Tom.content [39, 39, 39] (s.data.toList.drop a)))) := by
  have HL := Lib.hid (fun w => rlineEnd_any s a w (by omega) (by omega))
  rw [← hl] at HL
  have HB : Hid (∀ w : World, Calls Tryd.prog 44 #[.int .u8 39] w fun e w' => e = .returned (.bool false) ∧ w = w') := Lib.hid (fun w => rbare_any 39 w)
  have e0 : s.data.toList.drop a = s[a] :: s.data.toList.drop (a + 1) := List.drop_eq_getElem_cons (by rw [size_toList]; exact ha)
  have hq34 : Tom.starts [34, 34, 34] (s.data.toList.drop a) = false := by rw [e0, h0]; rfl
  have HD := fun w => rhas_any s ⟨#[34, 34, 34]⟩ a w (by omega) (by omega) (by decide)
  rw [show (⟨#[34, 34, 34]⟩ : ByteArray).data.toList = [34, 34, 34] from rfl, hq34] at HD
  have HD := Lib.hid HD
  have HS := fun w => rhas_any s ⟨#[39, 39, 39]⟩ a w (by omega) (by omega) (by decide)
  rw [show (⟨#[39, 39, 39]⟩ : ByteArray).data.toList = [39, 39, 39] from rfl, hq] at HS
  have HS := Lib.hid HS
  have n0 : ((s[a].toNat : Int) = 39) := by rw [h0]; rfl
  have hsz : a + (⟨#[39, 39, 39]⟩ : ByteArray).size ≤ s.size := by
    have := Tom.starts_len hq; rw [List.length_drop, size_toList] at this; show a + 3 ≤ s.size; simp at this; omega
  have HC := fun w => rtext_ml s ⟨#[39, 39, 39]⟩ a w hsz (by decide) (by decide) hs (by decide)
  have ec := Tom.contAt_eq [39, 39, 39] s.data.toList a
  rw [show ((([39, 39, 39] : List UInt8).length == 3) = true) from rfl] at ec
  rw [show (⟨#[39, 39, 39]⟩ : ByteArray).data.toList = [39, 39, 39] from rfl, ec] at HC
  obtain ⟨C, hC⟩ : ∃ C, C = Tom.content [39, 39, 39] (s.data.toList.drop a) := ⟨_, rfl⟩
  rw [← hC] at HC ⊢
  unfold RetX at HC
  have HR := fun (w' : World) (tx : ByteArray) (ln bd : Int) (h : (tx, ln, bd) = contV a (C.sh a)) (hb : Below w.heap.size w w') => retR_cont 7 C h hb
  obtain ⟨⟨tx, ln, bd⟩, hco⟩ : ∃ x, x = contV a (C.sh a) := ⟨_, rfl⟩
  rw [← hco] at HC HR
  have HR := Lib.hid (fun w' hb => HR w' tx ln bd rfl hb)
  have HC : Hid (∀ w : World, Calls Tryd.prog 46 #[.string s, .int .i64 a, .string ⟨#[39, 39, 39]⟩, .bool false, .bool true] w fun e w' => e = .returned (.tuple #[.string tx, .int .i64 ln, .int .i64 bd]) ∧ w = w') := Lib.hid HC
  clear hl h0 hC hco hq e0 hsz ec
  go_enter Tryd.func26, Tryd.ntmps26
  go_wp2_with fail
  refine (HL.out _).mono ?_
  rintro e w3 ⟨rfl, rfl⟩
  go_wp2_with fail
  refine (HB.out _).mono ?_
  rintro e w3 ⟨rfl, rfl⟩
  go_wp2_with fail
  refine (HD.out _).mono ?_
  rintro e w3 ⟨rfl, rfl⟩
  go_wp2_with fail
  refine (HS.out _).mono ?_
  rintro e w3 ⟨rfl, rfl⟩
  go_wp2_with fail
  refine (HC.out _).mono ?_
  rintro e w3 ⟨rfl, rfl⟩
  go_wp2_with fail
  refine bodyPost_ret (v := .tuple #[.agg #[.int .i64 7, .int .i64 a, .int .i64 ln, .string tx], .int .i64 bd]) (by simp [results, Tryd.results26, go_sem]) rfl ?_
  exact HR.out _ (below_alloc _)
set_option maxRecDepth 100000 in
set_option maxHeartbeats 4000000 in
theorem one_d1 (s : ByteArray) (a : Nat) (w : World) (ha : a < s.size) (hs : s.size ≤ 1099511627) (hl : 0 = Tom.lineEnd (s.data.toList.drop a)) (h0 : s[a] = 34) (hq : Tom.starts [34, 34, 34] (s.data.toList.drop a) = false) :
    Calls Tryd.prog 26 #[.string s, .int .i64 a] w (RetR a w (tokOf 4 (Tom.content [34] (s.data.toList.drop a)))) := by
  have HL := Lib.hid (fun w => rlineEnd_any s a w (by omega) (by omega))
  rw [← hl] at HL
  have HB : Hid (∀ w : World, Calls Tryd.prog 44 #[.int .u8 34] w fun e w' => e = .returned (.bool false) ∧ w = w') := Lib.hid (fun w => rbare_any 34 w)
  have e0 : s.data.toList.drop a = s[a] :: s.data.toList.drop (a + 1) := List.drop_eq_getElem_cons (by rw [size_toList]; exact ha)
  have HD := fun w => rhas_any s ⟨#[34, 34, 34]⟩ a w (by omega) (by omega) (by decide)
  rw [show (⟨#[34, 34, 34]⟩ : ByteArray).data.toList = [34, 34, 34] from rfl, hq] at HD
  have HD := Lib.hid HD
  have hq39 : Tom.starts [39, 39, 39] (s.data.toList.drop a) = false := by rw [e0, h0]; rfl
  have HS := fun w => rhas_any s ⟨#[39, 39, 39]⟩ a w (by omega) (by omega) (by decide)
  rw [show (⟨#[39, 39, 39]⟩ : ByteArray).data.toList = [39, 39, 39] from rfl, hq39] at HS
  have HS := Lib.hid HS
  have n0 : ((s[a].toNat : Int) = 34) := by rw [h0]; rfl
  have hsz : a + (⟨#[34]⟩ : ByteArray).size ≤ s.size := by
    show a + 1 ≤ s.size; omega
  have HC := fun w => rtext_oe s ⟨#[34]⟩ a w hsz (by decide) (by decide) hs (by decide)
  have ec := Tom.contAt_eq [34] s.data.toList a
  rw [show ((([34] : List UInt8).length == 3) = false) from rfl] at ec
  rw [show (⟨#[34]⟩ : ByteArray).data.toList = [34] from rfl, ec] at HC
  obtain ⟨C, hC⟩ : ∃ C, C = Tom.content [34] (s.data.toList.drop a) := ⟨_, rfl⟩
  rw [← hC] at HC ⊢
  unfold RetX at HC
  have HR := fun (w' : World) (tx : ByteArray) (ln bd : Int) (h : (tx, ln, bd) = contV a (C.sh a)) (hb : Below w.heap.size w w') => retR_cont 4 C h hb
  obtain ⟨⟨tx, ln, bd⟩, hco⟩ : ∃ x, x = contV a (C.sh a) := ⟨_, rfl⟩
  rw [← hco] at HC HR
  have HR := Lib.hid (fun w' hb => HR w' tx ln bd rfl hb)
  have HC : Hid (∀ w : World, Calls Tryd.prog 46 #[.string s, .int .i64 a, .string ⟨#[34]⟩, .bool true, .bool false] w fun e w' => e = .returned (.tuple #[.string tx, .int .i64 ln, .int .i64 bd]) ∧ w = w') := Lib.hid HC
  clear hl h0 hC hco hq e0 hsz ec
  go_enter Tryd.func26, Tryd.ntmps26
  go_wp2_with fail
  refine (HL.out _).mono ?_
  rintro e w3 ⟨rfl, rfl⟩
  go_wp2_with fail
  refine (HB.out _).mono ?_
  rintro e w3 ⟨rfl, rfl⟩
  go_wp2_with fail
  refine (HD.out _).mono ?_
  rintro e w3 ⟨rfl, rfl⟩
  go_wp2_with fail
  refine (HS.out _).mono ?_
  rintro e w3 ⟨rfl, rfl⟩
  go_wp2_with fail
  refine (HC.out _).mono ?_
  rintro e w3 ⟨rfl, rfl⟩
  go_wp2_with fail
  refine bodyPost_ret (v := .tuple #[.agg #[.int .i64 4, .int .i64 a, .int .i64 ln, .string tx], .int .i64 bd]) (by simp [results, Tryd.results26, go_sem]) rfl ?_
  exact HR.out _ (below_alloc _)
set_option maxRecDepth 100000 in
set_option maxHeartbeats 4000000 in
theorem one_s1 (s : ByteArray) (a : Nat) (w : World) (ha : a < s.size) (hs : s.size ≤ 1099511627) (hl : 0 = Tom.lineEnd (s.data.toList.drop a)) (h0 : s[a] = 39) (hq : Tom.starts [39, 39, 39] (s.data.toList.drop a) = false) :
    Calls Tryd.prog 26 #[.string s, .int .i64 a] w (RetR a w (tokOf 5 (Tom.content [39] (s.data.toList.drop a)))) := by
  have HL := Lib.hid (fun w => rlineEnd_any s a w (by omega) (by omega))
  rw [← hl] at HL
  have HB : Hid (∀ w : World, Calls Tryd.prog 44 #[.int .u8 39] w fun e w' => e = .returned (.bool false) ∧ w = w') := Lib.hid (fun w => rbare_any 39 w)
  have e0 : s.data.toList.drop a = s[a] :: s.data.toList.drop (a + 1) := List.drop_eq_getElem_cons (by rw [size_toList]; exact ha)
  have hq34 : Tom.starts [34, 34, 34] (s.data.toList.drop a) = false := by rw [e0, h0]; rfl
  have HD := fun w => rhas_any s ⟨#[34, 34, 34]⟩ a w (by omega) (by omega) (by decide)
  rw [show (⟨#[34, 34, 34]⟩ : ByteArray).data.toList = [34, 34, 34] from rfl, hq34] at HD
  have HD := Lib.hid HD
  have HS := fun w => rhas_any s ⟨#[39, 39, 39]⟩ a w (by omega) (by omega) (by decide)
  rw [show (⟨#[39, 39, 39]⟩ : ByteArray).data.toList = [39, 39, 39] from rfl, hq] at HS
  have HS := Lib.hid HS
  have n0 : ((s[a].toNat : Int) = 39) := by rw [h0]; rfl
  have hsz : a + (⟨#[39]⟩ : ByteArray).size ≤ s.size := by
    show a + 1 ≤ s.size; omega
  have HC := fun w => rtext_ol s ⟨#[39]⟩ a w hsz (by decide) (by decide) hs (by decide)
  have ec := Tom.contAt_eq [39] s.data.toList a
  rw [show ((([39] : List UInt8).length == 3) = false) from rfl] at ec
  rw [show (⟨#[39]⟩ : ByteArray).data.toList = [39] from rfl, ec] at HC
  obtain ⟨C, hC⟩ : ∃ C, C = Tom.content [39] (s.data.toList.drop a) := ⟨_, rfl⟩
  rw [← hC] at HC ⊢
  unfold RetX at HC
  have HR := fun (w' : World) (tx : ByteArray) (ln bd : Int) (h : (tx, ln, bd) = contV a (C.sh a)) (hb : Below w.heap.size w w') => retR_cont 5 C h hb
  obtain ⟨⟨tx, ln, bd⟩, hco⟩ : ∃ x, x = contV a (C.sh a) := ⟨_, rfl⟩
  rw [← hco] at HC HR
  have HR := Lib.hid (fun w' hb => HR w' tx ln bd rfl hb)
  have HC : Hid (∀ w : World, Calls Tryd.prog 46 #[.string s, .int .i64 a, .string ⟨#[39]⟩, .bool false, .bool false] w fun e w' => e = .returned (.tuple #[.string tx, .int .i64 ln, .int .i64 bd]) ∧ w = w') := Lib.hid HC
  clear hl h0 hC hco hq e0 hsz ec
  go_enter Tryd.func26, Tryd.ntmps26
  go_wp2_with fail
  refine (HL.out _).mono ?_
  rintro e w3 ⟨rfl, rfl⟩
  go_wp2_with fail
  refine (HB.out _).mono ?_
  rintro e w3 ⟨rfl, rfl⟩
  go_wp2_with fail
  refine (HD.out _).mono ?_
  rintro e w3 ⟨rfl, rfl⟩
  go_wp2_with fail
  refine (HS.out _).mono ?_
  rintro e w3 ⟨rfl, rfl⟩
  go_wp2_with fail
  refine (HC.out _).mono ?_
  rintro e w3 ⟨rfl, rfl⟩
  go_wp2_with fail
  refine bodyPost_ret (v := .tuple #[.agg #[.int .i64 5, .int .i64 a, .int .i64 ln, .string tx], .int .i64 bd]) (by simp [results, Tryd.results26, go_sem]) rfl ?_
  exact HR.out _ (below_alloc _)
set_option maxRecDepth 100000 in
set_option maxHeartbeats 4000000 in
theorem one_none (s : ByteArray) (a : Nat) (w : World) (ha : a < s.size) (hs : s.size ≤ 1099511627) (hl : 0 = Tom.lineEnd (s.data.toList.drop a)) (hp : isPunct s[a] = false) (hb : Tom.bare s[a] = false) (h1 : s[a] ≠ 34) (h2 : s[a] ≠ 39) :
    Calls Tryd.prog 26 #[.string s, .int .i64 a] w (RetR a w (.bad 0)) := by
  have HL := Lib.hid (fun w => rlineEnd_any s a w (by omega) (by omega))
  rw [← hl] at HL
  obtain ⟨c1, c2, c3, c4, c5, c6, c7⟩ := punct_no s[a] hp
  have HB := fun w => rbare_any s[a] w
  rw [hb] at HB
  have HB := Lib.hid HB
  have e0 : s.data.toList.drop a = s[a] :: s.data.toList.drop (a + 1) := List.drop_eq_getElem_cons (by rw [size_toList]; exact ha)
  have hq34 : Tom.starts [34, 34, 34] (s.data.toList.drop a) = false := by rw [e0]; simp [Tom.starts, List.isPrefixOf, h1.symm]
  have hq39 : Tom.starts [39, 39, 39] (s.data.toList.drop a) = false := by rw [e0]; simp [Tom.starts, List.isPrefixOf, h2.symm]
  have HD := fun w => rhas_any s ⟨#[34, 34, 34]⟩ a w (by omega) (by omega) (by decide)
  rw [show (⟨#[34, 34, 34]⟩ : ByteArray).data.toList = [34, 34, 34] from rfl, hq34] at HD
  have HD := Lib.hid HD
  have HS := fun w => rhas_any s ⟨#[39, 39, 39]⟩ a w (by omega) (by omega) (by decide)
  rw [show (⟨#[39, 39, 39]⟩ : ByteArray).data.toList = [39, 39, 39] from rfl, hq39] at HS
  have HS := Lib.hid HS
  have q1 : ((s[a].toNat : Int) == 34) = false := byte_ne 34 h1
  have q2 : ((s[a].toNat : Int) == 39) = false := byte_ne 39 h2
  clear hl hp hb h1 h2 e0 hq34 hq39
  go_enter Tryd.func26, Tryd.ntmps26
  go_wp2_with fail
  refine (HL.out _).mono ?_
  rintro e w3 ⟨rfl, rfl⟩
  go_wp2_with fail
  refine (HB.out _).mono ?_
  rintro e w3 ⟨rfl, rfl⟩
  go_wp2_with fail
  refine (HD.out _).mono ?_
  rintro e w3 ⟨rfl, rfl⟩
  go_wp2_with fail
  refine (HS.out _).mono ?_
  rintro e w3 ⟨rfl, rfl⟩
  go_wp2_with fail
  refine bodyPost_ret (v := .tuple #[.agg #[.int .i64 0, .int .i64 0, .int .i64 0, .string ⟨#[]⟩], .int .i64 a]) (by simp [results, Tryd.results26, go_sem]) rfl ?_
  exact RetR.bad (by omega) (below_alloc _)
theorem token_form (l : List UInt8) (c : UInt8) (r : List UInt8) (a0 : l = c :: r) (hl : ¬ 0 < Tom.lineEnd l) : Tom.token l = if ([91, 93, 123, 125, 44, 61, 46] : List UInt8).contains c then .ok 2 1 [c]
      else if Tom.bare c then .ok 3 (Tom.run Tom.bare l) (l.take (Tom.run Tom.bare l))
      else if c == 34 || c == 39 then
        tokOf ((if c == 34 then 4 else 5) + (if Tom.starts [c, c, c] l then 2 else 0)) (Tom.content (if Tom.starts [c, c, c] l then [c, c, c] else [c]) l)
      else .bad 0 := by
  unfold Tom.token
  rw [if_neg hl]
  subst a0
  simp only
  split
  · rfl
  · split
    · rfl
    · split
      · generalize Tom.content _ _ = C
        cases C <;> rfl
      · rfl
theorem one_any (s : ByteArray) (a : Nat) (w : World) (ha : a < s.size) (hs : s.size ≤ 1099511627) :
    Calls Tryd.prog 26 #[.string s, .int .i64 a] w (RetR a w (Tom.token (s.data.toList.drop a))) := by
  have a0 : s.data.toList.drop a = s[a] :: s.data.toList.drop (a + 1) := List.drop_eq_getElem_cons (by rw [size_toList]; exact ha)
  by_cases hl : 0 < Tom.lineEnd (s.data.toList.drop a)
  · have e : Tom.token (s.data.toList.drop a) = .ok 1 (Tom.lineEnd (s.data.toList.drop a)) [] := by unfold Tom.token; rw [if_pos hl]
    rw [e]
    have := lineEnd_le (s.data.toList.drop a)
    rw [List.length_drop, size_toList] at this
    exact one_line s a w ha hs _ hl rfl (by omega)
  · have hl0 : 0 = Tom.lineEnd (s.data.toList.drop a) := by omega
    rw [token_form _ _ _ a0 hl]
    split
    · rename_i hp
      exact one_punct s a w ha hs hl0 hp
    · rename_i hp
      have hp := Bool.eq_false_iff.2 hp
      split
      · rename_i hb
        exact one_bare s a w ha hs hl0 hp hb
      · rename_i hb
        have hb := Bool.eq_false_iff.2 hb
        by_cases h34 : s[a] = 34
        · rw [h34]
          cases hq : Tom.starts [34, 34, 34] (s.data.toList.drop a) with
          | true => exact one_d3 s a w ha hs hl0 h34 hq
          | false => exact one_d1 s a w ha hs hl0 h34 hq
        · by_cases h39 : s[a] = 39
          · rw [h39]
            cases hq : Tom.starts [39, 39, 39] (s.data.toList.drop a) with
            | true => exact one_s3 s a w ha hs hl0 h39 hq
            | false => exact one_s1 s a w ha hs hl0 h39 hq
          · rw [if_neg (by simp [h34, h39])]
            exact one_none s a w ha hs hl0 hp hb h34 h39
end Go.Proofs.YtdhbljbfjdlcdaaDoor
