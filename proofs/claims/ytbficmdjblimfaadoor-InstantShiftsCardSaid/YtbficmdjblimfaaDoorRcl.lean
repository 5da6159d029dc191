/-
  The reference's reader of a clock by its contract. Laid by wip/gen/rrd.py.
-/
import Derived.Test.YtbficmdjblimfaaDoorRda
import Derived.Test.YtbficmdjblimfaaDoorIn4
import Derived.Deep.CutBlock
import Derived.BigQuiet
namespace Go.Proofs.YtbficmdjblimfaaDoor
open Go.RowKit
/-- The nanoseconds after n digits, and what a unit of the next digit is worth. -/
def nanoX (l : List UInt8) (n : Nat) : Nat := Ins.val 0 (l.take (min n 9)) * 10 ^ (9 - min n 9)
def nanoU (n : Nat) : Nat := if n ≤ 8 then 10 ^ (8 - n) else 0
theorem nanoU_next (n : Nat) : nanoU n / 10 = nanoU (n + 1) := by
  by_cases h : n ≤ 8
  · have h2 : ∀ k, k ≤ 8 → nanoU k / 10 = nanoU (k + 1) := by decide
    exact h2 n h
  · unfold nanoU
    rw [if_neg h, if_neg (by omega)]
theorem nanoU_le (n : Nat) : nanoU n ≤ 100000000 := by
  by_cases h : n ≤ 8
  · have h2 : ∀ k, k ≤ 8 → nanoU k ≤ 100000000 := by decide
    exact h2 n h
  · unfold nanoU
    rw [if_neg h]
    omega
theorem nanoX_le (l : List UInt8) (n : Nat) (hn : n ≤ Ins.run l) : nanoX l n ≤ 999999999 := by
  unfold nanoX
  obtain ⟨k, hk⟩ : ∃ k, k = min n 9 := ⟨_, rfl⟩
  rw [← hk]
  have hk9 : k ≤ 9 := by omega
  have h1 := Ins.val_lt (l.take k) 0 (fun c hc => Ins.run_dig l c (by
    obtain ⟨j, hj⟩ : ∃ j, Ins.run l = k + j := ⟨Ins.run l - k, by omega⟩
    rw [hj, List.take_add]
    exact List.mem_append_left _ hc))
  rw [List.length_take, Nat.zero_add, Nat.one_mul] at h1
  have h2 : Ins.val 0 (l.take k) < 10 ^ k := Nat.lt_of_lt_of_le h1 (Nat.pow_le_pow_right (by decide) (Nat.min_le_left _ _))
  obtain ⟨j, hj⟩ : ∃ j, k + j = 9 := ⟨9 - k, by omega⟩
  rw [show 9 - k = j by omega]
  have h3 : 10 ^ k * 10 ^ j = 1000000000 := by rw [← Nat.pow_add, hj]
  have h4 := (Nat.mul_lt_mul_right (Nat.pow_pos (n := j) (show 0 < 10 by decide))).2 h2
  omega
theorem nanoX_next (l : List UInt8) (n : Nat) (c : UInt8) (h : l[n]? = some c) : nanoX l (n + 1) = nanoX l n + nanoU n * Ins.dv c := by
  unfold nanoX nanoU
  by_cases hn : n ≤ 8
  · rw [if_pos hn, show min (n + 1) 9 = n + 1 by omega, show min n 9 = n by omega, Ins.val_snoc l n c h, show 9 - (n + 1) = 8 - n by omega, show 9 - n = (8 - n) + 1 by omega, Nat.pow_succ, Nat.add_mul, Nat.mul_comm (10 ^ (8 - n)) 10, Nat.mul_comm (10 ^ (8 - n)) (Ins.dv c)]
    rw [Nat.mul_comm 10 (Ins.val 0 (l.take n)), Nat.mul_assoc]
  · rw [if_neg hn, Nat.zero_mul, show min (n + 1) 9 = 9 by omega, show min n 9 = 9 by omega, Nat.add_zero]
section
variable {w : World} {ops : Array Oper} {rest : List Oper} {o : Oper} {a : Act} {Q : Exit → Act → World → Prop}
theorem wpList_load_T (hgd : o.guard = none) (x : Operand) (ho : o.op = .load 30 x) (g : Nat) (cs : Array Value) (hsz : cs.size = 12) (hx : a.eval x = .pointer (some ⟨g, 0, none⟩)) (hg : Blk w g 30 cs)
    (h : wpList Tryd.prog ops Q rest (a.put o.dst (.agg cs)) w) : wpList Tryd.prog ops Q (o :: rest) a w :=
  wpList_load_row hgd _ x ho g hx _ _ _ _ hg Tryd.underlying30 rfl (rowT.trans (by rw [hsz])) h
theorem wpList_store_T (hgd : o.guard = none) (x y : Operand) (ho : o.op = .store 30 x y) (hd : o.dst = none) (g : Nat) (cs : Array Value) (hsz : cs.size = 12) (dt tm zn : Bool) (y0 mo d h mi sc ns off : Int) (lt : Bool)
    (hx : a.eval x = .pointer (some ⟨g, 0, none⟩)) (hy : a.eval y = .agg (tC dt tm zn y0 mo d h mi sc ns off lt)) (hg : Blk w g 30 cs)
    (hk : wpList Tryd.prog ops Q rest a (w.setRow g (tC dt tm zn y0 mo d h mi sc ns off lt))) : wpList Tryd.prog ops Q (o :: rest) a w :=
  wpList_store_agg hgd _ x y ho hd g cs (tC dt tm zn y0 mo d h mi sc ns off lt) _ rowT hsz (fun j hj => by
    have hj : j < 12 := hj
    obtain rfl | rfl | rfl | rfl | rfl | rfl | rfl | rfl | rfl | rfl | rfl | rfl : j = 0 ∨ j = 1 ∨ j = 2 ∨ j = 3 ∨ j = 4 ∨ j = 5 ∨ j = 6 ∨ j = 7 ∨ j = 8 ∨ j = 9 ∨ j = 10 ∨ j = 11 := by omega
    all_goals rfl) hx hy hg hk
end
theorem ret_TB {fn : Func} {Post : Go.Ending → World → Prop} {a : Act} {w : World} {p q : Tmp} {g : Nat} {D : Array Value} {v : Value} (hfn : fn.results = #[.cell p 30, .tmp q]) (hd : a.defers = [])
    (hp : a.tmps.getD p undef = .pointer (some ⟨g, 0, none⟩)) (hv : a.tmps.getD q undef = v) (hsz : D.size = 12) (hg : Blk w g 30 D)
    (hpost : Post (.returned (.tuple #[.agg D, v])) w) : bodyPost Tryd.prog fn Post Exit.ret a w :=
  bodyPost_ret (results_cell_tmp hfn _ _ _ _ D _ v hp hv hg Tryd.underlying30 rfl (rowT.trans (by rw [hsz]))) hd hpost
theorem blk_two (w : World) (T : TypeId) (C D : Array Value) : Blk ((w.alloc (.cells C T)).alloc (.cells D T)) w.heap.size T C ∧ Blk ((w.alloc (.cells C T)).alloc (.cells D T)) (w.heap.size + 1) T D ∧ Below w.heap.size w ((w.alloc (.cells C T)).alloc (.cells D T)) := by
  have hB := Blk.new (w.alloc (.cells C T)) T D
  rw [heap_alloc_sz] at hB
  exact ⟨(Blk.new w T C).alloc _, hB, (below_alloc _).trans ((below_alloc _).mono (below_alloc _).size)⟩
def nanoR (l : List UInt8) (p : Nat) : Option (Nat × Nat) := if Ins.run l < 1 ∨ 9 < Ins.run l then none else some (nanoX l (Ins.run l), p + Ins.run l)
theorem frac_nano (L : List UInt8) (p : Nat) (h : Ins.isAt L p 46 = true) : Ins.fracAt L p = nanoR (L.drop (p + 1)) (p + 1) := by
  unfold Ins.fracAt nanoR
  rw [if_pos h]
  by_cases hr : Ins.run (L.drop (p + 1)) < 1 ∨ 9 < Ins.run (L.drop (p + 1))
  · rw [if_pos hr, if_pos hr]
  · rw [if_neg hr, if_neg hr]
    unfold nanoX
    rw [show min (Ins.run (L.drop (p + 1))) 9 = Ins.run (L.drop (p + 1)) by omega]
theorem frac_no (L : List UInt8) (p : Nat) (h : Ins.isAt L p 46 = false) : Ins.fracAt L p = some (0, p) := by
  unfold Ins.fracAt
  rw [if_neg (by rw [h]; decide)]
set_option maxRecDepth 100000 in
set_option maxHeartbeats 8000000 in
theorem rclock_any (s : ByteArray) (a : Nat) (dt : Bool) (y mo d : Int) (w : World) (hs : s.size ≤ 1000000) (ha : a ≤ 1000000) :
    Calls Tryd.prog 30 #[.string s, .int .i64 (a : Int), .agg (tC dt false false y mo d 0 0 0 0 0 false)] w (RetT w ((Ins.clockAt s.data.toList a).map fun p => (tC dt true false y mo d p.1 p.2.1 p.2.2.1 p.2.2.2.1 0 false, p.2.2.2.2))) := by
  obtain ⟨R, hR⟩ : ∃ R, R = Ins.clockAt s.data.toList a := ⟨_, rfl⟩
  rw [← hR]
  unfold Ins.clockAt Ins.hmsAt at hR
  have H1 : Hid (∀ w1, Calls Tryd.prog 42 #[.string s, .int .i64 (a : Int), .int .i64 2] w1 fun e w' => e = .returned (.int .i64 (optI (Ins.numAt s.data.toList a 2))) ∧ w1 = w') := Lib.hid (fun w1 => rtwo_any s a 2 w1 hs (by omega) (by decide) (by decide))
  have H2 : Hid (∀ w1, Calls Tryd.prog 42 #[.string s, .int .i64 ((a : Int) + 3), .int .i64 2] w1 fun e w' => e = .returned (.int .i64 (optI (Ins.numAt s.data.toList (a + 3) 2))) ∧ w1 = w') := Lib.hid (fun w1 => rtwo_any s (a + 3) 2 w1 hs (by omega) (by decide) (by decide))
  have H3 : Hid (∀ w1, Calls Tryd.prog 42 #[.string s, .int .i64 ((a : Int) + 6), .int .i64 2] w1 fun e w' => e = .returned (.int .i64 (optI (Ins.numAt s.data.toList (a + 6) 2))) ∧ w1 = w') := Lib.hid (fun w1 => rtwo_any s (a + 6) 2 w1 hs (by omega) (by decide) (by decide))
  have H4 : Hid (∀ w1, Calls Tryd.prog 31 #[.string s, .int .i64 ((a : Int) + 2), .int .u8 58] w1 fun e w' => e = .returned (.bool (Ins.isAt s.data.toList (a + 2) 58)) ∧ w1 = w') := Lib.hid (fun w1 => ris_any s (a + 2) 58 w1 hs (by omega))
  have H5 : Hid (∀ w1, Calls Tryd.prog 31 #[.string s, .int .i64 ((a : Int) + 5), .int .u8 58] w1 fun e w' => e = .returned (.bool (Ins.isAt s.data.toList (a + 5) 58)) ∧ w1 = w') := Lib.hid (fun w1 => ris_any s (a + 5) 58 w1 hs (by omega))
  have H6 : Hid (∀ w1, Calls Tryd.prog 31 #[.string s, .int .i64 ((a : Int) + 8), .int .u8 46] w1 fun e w' => e = .returned (.bool (Ins.isAt s.data.toList (a + 8) 46)) ∧ w1 = w') := Lib.hid (fun w1 => ris_any s (a + 8) 46 w1 hs (by omega))
  generalize Ins.numAt s.data.toList a 2 = o1 at *
  generalize Ins.numAt s.data.toList (a + 3) 2 = o2 at *
  generalize Ins.numAt s.data.toList (a + 6) 2 = o3 at *
  generalize Ins.isAt s.data.toList (a + 2) 58 = b1 at *
  generalize Ins.isAt s.data.toList (a + 5) 58 = b2 at *
  obtain ⟨v1, hv1⟩ : ∃ v, v = optI o1 := ⟨_, rfl⟩
  obtain ⟨v2, hv2⟩ : ∃ v, v = optI o2 := ⟨_, rfl⟩
  obtain ⟨v3, hv3⟩ : ∃ v, v = optI o3 := ⟨_, rfl⟩
  rw [← hv1] at H1
  rw [← hv2] at H2
  rw [← hv3] at H3
  unfold tC
  cases o1 with
  | none =>
    have n1 : v1 < 0 := by rw [hv1, optI_none]; decide
    obtain rfl : R = none := hR.trans (by first | rfl | (cases o2 <;> rfl) | (cases o2 <;> cases o3 <;> rfl))
    clear hv1 hv2 hv3 hR
    clear H6
    go_enter Tryd.func30, Tryd.ntmps30
    go_wp2_with (first | (go_at_call 42; with_reducible refine (H1.out _).mono ?_; rintro e w5 ⟨rfl, rfl⟩) | (go_at_call 42; with_reducible refine (H2.out _).mono ?_; rintro e w5 ⟨rfl, rfl⟩) | (go_at_call 42; with_reducible refine (H3.out _).mono ?_; rintro e w5 ⟨rfl, rfl⟩) | (go_at_call 31; with_reducible refine (H4.out _).mono ?_; rintro e w5 ⟨rfl, rfl⟩) | (go_at_call 31; with_reducible refine (H5.out _).mono ?_; rintro e w5 ⟨rfl, rfl⟩))
    refine ret_T rfl rfl rfl rfl rfl fun hb => ?_
    exact ⟨⟨_, _, _, _, _, _, _, _, _, _, _, _, rfl⟩, hb⟩
  | some x1 =>
    have hv1 : v1 = (x1 : Int) := hv1
    subst hv1
    cases o2 with
    | none =>
      have n2 : v2 < 0 := by rw [hv2, optI_none]; decide
      obtain rfl : R = none := hR.trans (by first | rfl | (cases o3 <;> rfl))
      clear hv2 hv3 hR
      clear H6
      go_enter Tryd.func30, Tryd.ntmps30
      go_wp2_with (first | (go_at_call 42; with_reducible refine (H1.out _).mono ?_; rintro e w5 ⟨rfl, rfl⟩) | (go_at_call 42; with_reducible refine (H2.out _).mono ?_; rintro e w5 ⟨rfl, rfl⟩) | (go_at_call 42; with_reducible refine (H3.out _).mono ?_; rintro e w5 ⟨rfl, rfl⟩) | (go_at_call 31; with_reducible refine (H4.out _).mono ?_; rintro e w5 ⟨rfl, rfl⟩) | (go_at_call 31; with_reducible refine (H5.out _).mono ?_; rintro e w5 ⟨rfl, rfl⟩))
      refine ret_T rfl rfl rfl rfl rfl fun hb => ?_
      exact ⟨⟨_, _, _, _, _, _, _, _, _, _, _, _, rfl⟩, hb⟩
    | some x2 =>
      have hv2 : v2 = (x2 : Int) := hv2
      subst hv2
      cases o3 with
      | none =>
        have n3 : v3 < 0 := by rw [hv3, optI_none]; decide
        obtain rfl : R = none := hR
  
        clear H6
        go_enter Tryd.func30, Tryd.ntmps30
        go_wp2_with (first | (go_at_call 42; with_reducible refine (H1.out _).mono ?_; rintro e w5 ⟨rfl, rfl⟩) | (go_at_call 42; with_reducible refine (H2.out _).mono ?_; rintro e w5 ⟨rfl, rfl⟩) | (go_at_call 42; with_reducible refine (H3.out _).mono ?_; rintro e w5 ⟨rfl, rfl⟩) | (go_at_call 31; with_reducible refine (H4.out _).mono ?_; rintro e w5 ⟨rfl, rfl⟩) | (go_at_call 31; with_reducible refine (H5.out _).mono ?_; rintro e w5 ⟨rfl, rfl⟩))
        refine ret_T rfl rfl rfl rfl rfl fun hb => ?_
        exact ⟨⟨_, _, _, _, _, _, _, _, _, _, _, _, rfl⟩, hb⟩
      | some x3 =>
        have hv3 : v3 = (x3 : Int) := hv3
        subst hv3
        cases b1 with
        | false =>
          obtain rfl : R = none := hR.trans (by cases b2 <;> rfl)
          clear hR
          clear H6
          go_enter Tryd.func30, Tryd.ntmps30
          go_wp2_with (first | (go_at_call 42; with_reducible refine (H1.out _).mono ?_; rintro e w5 ⟨rfl, rfl⟩) | (go_at_call 42; with_reducible refine (H2.out _).mono ?_; rintro e w5 ⟨rfl, rfl⟩) | (go_at_call 42; with_reducible refine (H3.out _).mono ?_; rintro e w5 ⟨rfl, rfl⟩) | (go_at_call 31; with_reducible refine (H4.out _).mono ?_; rintro e w5 ⟨rfl, rfl⟩) | (go_at_call 31; with_reducible refine (H5.out _).mono ?_; rintro e w5 ⟨rfl, rfl⟩))
          refine ret_T rfl rfl rfl rfl rfl fun hb => ?_
          exact ⟨⟨_, _, _, _, _, _, _, _, _, _, _, _, rfl⟩, hb⟩
        | true =>
          cases b2 with
          | false =>
            obtain rfl : R = none := hR
            clear H6
            go_enter Tryd.func30, Tryd.ntmps30
            go_wp2_with (first | (go_at_call 42; with_reducible refine (H1.out _).mono ?_; rintro e w5 ⟨rfl, rfl⟩) | (go_at_call 42; with_reducible refine (H2.out _).mono ?_; rintro e w5 ⟨rfl, rfl⟩) | (go_at_call 42; with_reducible refine (H3.out _).mono ?_; rintro e w5 ⟨rfl, rfl⟩) | (go_at_call 31; with_reducible refine (H4.out _).mono ?_; rintro e w5 ⟨rfl, rfl⟩) | (go_at_call 31; with_reducible refine (H5.out _).mono ?_; rintro e w5 ⟨rfl, rfl⟩))
            refine ret_T rfl rfl rfl rfl rfl fun hb => ?_
            exact ⟨⟨_, _, _, _, _, _, _, _, _, _, _, _, rfl⟩, hb⟩
          | true =>
            replace hR : R = match Ins.fracAt s.data.toList (a + 8) with
                | none => none
                | some (ns, b) => some (x1, x2, x3, ns, b) := hR
            clear hv1 hv2 hv3
            have n1 : ¬ (x1 : Int) < 0 := by omega
            have n2 : ¬ (x2 : Int) < 0 := by omega
            have n3 : ¬ (x3 : Int) < 0 := by omega
            obtain ⟨q, hq⟩ : ∃ q, q = a + 8 := ⟨_, rfl⟩
            rw [← hq] at hR
            have hqi : (a : Int) + 8 = (q : Int) := by omega
            have HQ := Lib.hid hqi
            rw [← hq, hqi] at H6
            cases hi : Ins.isAt s.data.toList q 46 with
            | false =>
              rw [frac_no _ _ hi] at hR
              obtain rfl : R = some (x1, x2, x3, 0, q) := hR
              rw [hi] at H6
              clear hi hq
              go_enter Tryd.func30, Tryd.ntmps30
              go_wp2_with (first | (go_at_call 42; with_reducible refine (H1.out _).mono ?_; rintro e w5 ⟨rfl, rfl⟩) | (go_at_call 42; with_reducible refine (H2.out _).mono ?_; rintro e w5 ⟨rfl, rfl⟩) | (go_at_call 42; with_reducible refine (H3.out _).mono ?_; rintro e w5 ⟨rfl, rfl⟩) | (go_at_call 31; with_reducible refine (H4.out _).mono ?_; rintro e w5 ⟨rfl, rfl⟩) | (go_at_call 31; with_reducible refine (H5.out _).mono ?_; rintro e w5 ⟨rfl, rfl⟩) | (go_at_call 31; with_reducible refine (H6.out _).mono ?_; rintro e w5 ⟨rfl, rfl⟩))
              refine ret_T rfl rfl rfl rfl rfl fun hb => ?_
              exact ⟨rfl, hb⟩
            | true =>
              rw [frac_nano _ _ hi] at hR
              rw [hi] at H6
              have hql : q < s.size := by
                unfold Ins.isAt at hi
                rw [beq_iff_eq] at hi
                have := (List.getElem?_eq_some_iff.1 hi).1
                rw [size_toList] at this
                exact this
              obtain ⟨l, hl⟩ : ∃ l, l = s.data.toList.drop (q + 1) := ⟨_, rfl⟩
              rw [← hl] at hR
              have HL := Lib.hid hl
              have HR := Lib.hid hR
              have hrl : Hid (q + 1 + Ins.run l ≤ s.size) := Lib.hid (by
                have := Ins.run_le l
                rw [HL.out, List.length_drop, size_toList, ← HL.out] at this
                omega)
              obtain ⟨r, hr⟩ : ∃ r, r = Ins.run l := ⟨_, rfl⟩
              have HRr := Lib.hid hr
              have hgr := hrl.out
              rw [← hr] at hgr
              clear hR hi hl hr hq hrl
              go_enter Tryd.func30, Tryd.ntmps30
              go_upto_block 1 with (first | (go_at_call 42; with_reducible refine (H1.out _).mono ?_; rintro e w5 ⟨rfl, rfl⟩) | (go_at_call 42; with_reducible refine (H2.out _).mono ?_; rintro e w5 ⟨rfl, rfl⟩) | (go_at_call 42; with_reducible refine (H3.out _).mono ?_; rintro e w5 ⟨rfl, rfl⟩) | (go_at_call 31; with_reducible refine (H4.out _).mono ?_; rintro e w5 ⟨rfl, rfl⟩) | (go_at_call 31; with_reducible refine (H5.out _).mono ?_; rintro e w5 ⟨rfl, rfl⟩) | (go_at_call 31; with_reducible refine (H6.out _).mono ?_; rintro e w5 ⟨rfl, rfl⟩))
              obtain ⟨k1, k2, k3⟩ := blk_two w 30 (tC dt true false y mo d x1 x2 x3 0 0 false) (tC false false false 0 0 0 0 0 0 0 0 false)
              unfold tC at k1 k2 k3
              generalize ((w.alloc (.cells #[.bool dt, .bool true, .bool false, .int .i64 y, .int .i64 mo, .int .i64 d, .int .i64 (x1 : Int), .int .i64 (x2 : Int), .int .i64 (x3 : Int), .int .i64 0, .int .i64 0, .bool false] 30)).alloc (.cells #[.bool false, .bool false, .bool false, .int .i64 0, .int .i64 0, .int .i64 0, .int .i64 0, .int .i64 0, .int .i64 0, .int .i64 0, .int .i64 0, .bool false] 30)) = w1 at *
              have k1 : Blk w1 w.heap.size 30 (tC dt true false y mo d x1 x2 x3 0 0 false) := k1
              have k2 : Blk w1 (w.heap.size + 1) 30 (tC false false false 0 0 0 0 0 0 0 0 false) := k2
              have HX0 : Hid (0 = nanoX l 0 ∧ 100000000 = nanoU 0) := Lib.hid ⟨by unfold nanoX; rw [show min 0 9 = 0 from rfl, List.take_zero, Ins.val_nil, Nat.zero_mul], by decide⟩
              clear H1 H2 H3 H4 H5 H6
              obtain ⟨X, hX⟩ : ∃ X, X = w.heap.size := ⟨_, rfl⟩
              obtain ⟨Y, hY⟩ : ∃ Y, Y = w.heap.size + 1 := ⟨_, rfl⟩
              rw [← hY] at k2 ⊢
              rw [← hX] at k1 ⊢
              have nXY : X ≠ Y := by omega
              have bX : w.heap.size ≤ X := by omega
              have bY : w.heap.size ≤ Y := by omega
              clear hX hY
              have hqb : q ≤ 1000000 := by omega
              go_loopg [8, 9] r (fun g nv uv wr => ∃ n x u : Nat, nv = .int .i64 (n : Int) ∧ uv = .int .i64 (u : Int) ∧ n + g = r ∧ x ≤ 999999999 ∧ u ≤ 100000000 ∧ Hid (x = nanoX l n ∧ u = nanoU n) ∧ Blk wr X 30 (tC dt true false y mo d x1 x2 x3 (x : Int) 0 false) ∧ Blk wr Y 30 (tC false false false 0 0 0 0 0 0 0 0 false) ∧ Below w.heap.size w wr)
              case atStart => exact ⟨0, 0, 100000000, rfl, rfl, by omega, by decide, by decide, HX0, k1, k2, k3⟩
              case round =>
                clear HX0 k1 k2 k3
                obtain ⟨n, x, u, rfl, rfl, hng, hx9, hu9, HXU, hXb, hYb, hbb⟩ := hrel
                have cX : wr.cell? ⟨X, 9, none⟩ = some (.int .i64 (x : Int)) := hXb.at_ 9
                have fX : wr.frozen? ⟨X, 9, none⟩ = false := hXb.free 9
                obtain ⟨P, hP⟩ : ∃ P, P = q + 1 + n := ⟨_, rfl⟩
                have hPi : (q : Int) + 1 + (n : Int) = (P : Int) := by omega
                have HPP := Lib.hid hP
                by_cases hlt : n < r
                · obtain ⟨g, rfl⟩ : ∃ g, gk = g + 1 := ⟨gk - 1, by omega⟩
                  have hpl : P < s.size := by omega
                  obtain ⟨c, hc1, hc2⟩ := Ins.run_get l n (by rw [← HRr.out]; exact hlt)
                  have hxn := nanoX_next l n c hc1
                  have hxl := nanoX_le l (n + 1) (by rw [← HRr.out]; exact hlt)
                  rw [HL.out, List.getElem?_drop, show q + 1 + n = P by omega, List.getElem?_eq_getElem (by rw [size_toList]; exact hpl)] at hc1
                  obtain rfl : s[P] = c := Option.some.inj hc1
                  rcases dig_test s[P] with ⟨g0, g1, g2, g3⟩ | ⟨g0, g1⟩ | ⟨g0, g1⟩
                  · have hm : ((u * Ins.dv s[P] : Nat) : Int) = (u : Int) * ((s[P].toNat : Int) - 48) := by rw [← g3]; rfl
                    rw [← HXU.out.1, ← HXU.out.2] at hxn
                    have e0 : 0 ≤ (u : Int) * ((s[P].toNat : Int) - 48) := by omega
                    have e1 : (x : Int) + (u : Int) * ((s[P].toNat : Int) - 48) ≤ 999999999 := by omega
                    have HN : Hid ((x : Int) + (u : Int) * ((s[P].toNat : Int) - 48) = ((nanoX l (n + 1) : Nat) : Int)) := Lib.hid (by omega)
                    have HX1 : Hid (u / 10 = nanoU (n + 1)) := Lib.hid (by rw [HXU.out.2]; exact nanoU_next n)
                    have hxl2 := Lib.hid hxl
                    have d0 : 0 ≤ (s[P].toNat : Int) - 48 := by omega
                    have d1 : (s[P].toNat : Int) - 48 ≤ 9 := by omega
                    have e2 : (u : Int) * ((s[P].toNat : Int) - 48) ≤ 999999999 := by omega
                    clear HXU hxn hxl hc1 hc2 g0 g3 hm hP HRr HL HR
                    go_upto_region 11 with fail
                    refine wp_region_quiet_tail 14 (by kernel_rfl) (by kernel_rfl) ?_
                    simp only [List.take_succ_cons, List.take_zero, List.drop_succ_cons, List.drop_zero]
                    refine quiet_of_run rfl (.pointer (some ⟨X, 9, none⟩)) (fun w' _ => by kernel_rfl) ?_
                    simp only [Act.put, List.setIfInBounds_toArray, List.set_cons_succ, List.set_cons_zero]
                    refine quiet_load_cell rfl 3 _ rfl ⟨X, 9, none⟩ _ (funext Tryd.isAgg3) rfl (fun w' h => by subst h; exact cX) ?_
                    simp only [Act.put, List.setIfInBounds_toArray, List.set_cons_succ, List.set_cons_zero]
                    iterate 11 (go_big_quiet_step (fail))
                    refine quiet_of_run rfl (.pointer (some ⟨X, 9, none⟩)) (fun w' _ => by kernel_rfl) ?_
                    simp only [Act.put, List.setIfInBounds_toArray, List.set_cons_succ, List.set_cons_zero]
                    refine wpQuiet_nil ?_
                    have dX : wr.drew.cell? ⟨X, 9, none⟩ = some (.int .i64 (x : Int)) := cX
                    have eX : wr.drew.frozen? ⟨X, 9, none⟩ = false := fX
                    go_wp2_with fail
                    have hXn : Blk (wr.drew.setCell ⟨X, 9, none⟩ (.int .i64 ((x : Int) + (u : Int) * ((s[P].toNat : Int) - 48)))) X 30 (tC dt true false y mo d x1 x2 x3 ((nanoX l (n + 1) : Nat) : Int) 0 false) := by
                      rw [← HN.out]
                      exact Blk.put (w := wr.drew) hXb 9 _
                    have hYn : Blk (wr.drew.setCell ⟨X, 9, none⟩ (.int .i64 ((x : Int) + (u : Int) * ((s[P].toNat : Int) - 48)))) Y 30 (tC false false false 0 0 0 0 0 0 0 0 false) := Blk.set_other (w := wr.drew) hYb (a := ⟨X, 9, none⟩) (fun h => nXY h.symm) _
                    go_roundg g
                    case measure => omega
                    case rel => exact ⟨n + 1, nanoX l (n + 1), u / 10, by go_num, by congr 1, by omega, hxl2.out, by omega, Lib.hid ⟨rfl, HX1.out⟩, hXn, hYn, (Below.drew hbb).setCell (p := ⟨X, 9, none⟩) bX _⟩
                  · rw [hc2] at g0; cases g0
                  · rw [hc2] at g0; cases g0
                · obtain rfl : n = r := by omega
                  have hR := HR.out
                  unfold nanoR at hR
                  rw [← HRr.out, ← HXU.out.1] at hR
                  have hstop : ∀ h : P < s.size, Ins.dig s[P] = false := fun h => Ins.run_stop l _ (by
                    rw [← HRr.out, HL.out, List.getElem?_drop, show q + 1 + n = P by omega, List.getElem?_eq_getElem (by rw [size_toList]; exact h)]
                    rfl)
                  have hpe : P ≤ s.size := by omega
                  have h9 : (n < 1 ∨ 9 < n) ∧ R = none ∨ ¬ n < 1 ∧ ¬ 9 < n ∧ R = some (x1, x2, x3, x, P) := by
                    by_cases h : n < 1 ∨ 9 < n
                    · rw [if_pos h] at hR
                      exact .inl ⟨h, hR⟩
                    · rw [if_neg h] at hR
                      exact .inr ⟨fun h2 => h (.inl h2), fun h2 => h (.inr h2), by rw [hR]; simp only; rw [hP]⟩
                  clear HXU HR hR HRr HL hP hlt
                  by_cases hpl : P < s.size
                  · have hd := hstop hpl
                    rcases dig_test s[P] with ⟨g0, g1, g2, g3⟩ | ⟨g0, g1⟩ | ⟨g0, g1⟩
                    · rw [hd] at g0; cases g0
                    · clear g0 hd hstop
                      rcases h9 with ⟨h9 | h9, rfl⟩ | ⟨h91, h92, rfl⟩
                      · have h93 : (n : Int) < 1 := by omega
                        go_wp2_with (first | ((with_reducible refine wpList_load_T rfl _ rfl X (tC dt true false y mo d x1 x2 x3 (x : Int) 0 false) rfl ?_ hXb ?_); exact rfl) | ((with_reducible refine wpList_store_T rfl _ _ rfl rfl Y (tC false false false 0 0 0 0 0 0 0 0 false) rfl dt true false y mo d x1 x2 x3 (x : Int) 0 false ?_ ?_ hYb ?_); exact rfl; exact rfl))
                        exact ret_TB rfl rfl rfl rfl rfl (hYb.row _) ⟨⟨_, _, _, _, _, _, _, _, _, _, _, _, rfl⟩, setRow_below hbb bY _⟩
                      · have h93 : ¬ (n : Int) < 1 := by omega
                        have h94 : 9 < (n : Int) := by omega
                        go_wp2_with (first | ((with_reducible refine wpList_load_T rfl _ rfl X (tC dt true false y mo d x1 x2 x3 (x : Int) 0 false) rfl ?_ hXb ?_); exact rfl) | ((with_reducible refine wpList_store_T rfl _ _ rfl rfl Y (tC false false false 0 0 0 0 0 0 0 0 false) rfl dt true false y mo d x1 x2 x3 (x : Int) 0 false ?_ ?_ hYb ?_); exact rfl; exact rfl))
                        exact ret_TB rfl rfl rfl rfl rfl (hYb.row _) ⟨⟨_, _, _, _, _, _, _, _, _, _, _, _, rfl⟩, setRow_below hbb bY _⟩
                      · have h93 : ¬ (n : Int) < 1 := by omega
                        have h94 : ¬ 9 < (n : Int) := by omega
                        go_wp2_with (first | ((with_reducible refine wpList_load_T rfl _ rfl X (tC dt true false y mo d x1 x2 x3 (x : Int) 0 false) rfl ?_ hXb ?_); exact rfl) | ((with_reducible refine wpList_store_T rfl _ _ rfl rfl Y (tC false false false 0 0 0 0 0 0 0 0 false) rfl dt true false y mo d x1 x2 x3 (x : Int) 0 false ?_ ?_ hYb ?_); exact rfl; exact rfl))
                        exact ret_TB rfl rfl rfl rfl rfl (hYb.row _) ⟨rfl, setRow_below hbb bY _⟩
                    · clear g0 hd hstop
                      rcases h9 with ⟨h9 | h9, rfl⟩ | ⟨h91, h92, rfl⟩
                      · have h93 : (n : Int) < 1 := by omega
                        go_wp2_with (first | ((with_reducible refine wpList_load_T rfl _ rfl X (tC dt true false y mo d x1 x2 x3 (x : Int) 0 false) rfl ?_ hXb ?_); exact rfl) | ((with_reducible refine wpList_store_T rfl _ _ rfl rfl Y (tC false false false 0 0 0 0 0 0 0 0 false) rfl dt true false y mo d x1 x2 x3 (x : Int) 0 false ?_ ?_ hYb ?_); exact rfl; exact rfl))
                        exact ret_TB rfl rfl rfl rfl rfl (hYb.row _) ⟨⟨_, _, _, _, _, _, _, _, _, _, _, _, rfl⟩, setRow_below hbb bY _⟩
                      · have h93 : ¬ (n : Int) < 1 := by omega
                        have h94 : 9 < (n : Int) := by omega
                        go_wp2_with (first | ((with_reducible refine wpList_load_T rfl _ rfl X (tC dt true false y mo d x1 x2 x3 (x : Int) 0 false) rfl ?_ hXb ?_); exact rfl) | ((with_reducible refine wpList_store_T rfl _ _ rfl rfl Y (tC false false false 0 0 0 0 0 0 0 0 false) rfl dt true false y mo d x1 x2 x3 (x : Int) 0 false ?_ ?_ hYb ?_); exact rfl; exact rfl))
                        exact ret_TB rfl rfl rfl rfl rfl (hYb.row _) ⟨⟨_, _, _, _, _, _, _, _, _, _, _, _, rfl⟩, setRow_below hbb bY _⟩
                      · have h93 : ¬ (n : Int) < 1 := by omega
                        have h94 : ¬ 9 < (n : Int) := by omega
                        go_wp2_with (first | ((with_reducible refine wpList_load_T rfl _ rfl X (tC dt true false y mo d x1 x2 x3 (x : Int) 0 false) rfl ?_ hXb ?_); exact rfl) | ((with_reducible refine wpList_store_T rfl _ _ rfl rfl Y (tC false false false 0 0 0 0 0 0 0 0 false) rfl dt true false y mo d x1 x2 x3 (x : Int) 0 false ?_ ?_ hYb ?_); exact rfl; exact rfl))
                        exact ret_TB rfl rfl rfl rfl rfl (hYb.row _) ⟨rfl, setRow_below hbb bY _⟩
                  · clear hstop
                    rcases h9 with ⟨h9 | h9, rfl⟩ | ⟨h91, h92, rfl⟩
                    · have h93 : (n : Int) < 1 := by omega
                      go_wp2_with (first | ((with_reducible refine wpList_load_T rfl _ rfl X (tC dt true false y mo d x1 x2 x3 (x : Int) 0 false) rfl ?_ hXb ?_); exact rfl) | ((with_reducible refine wpList_store_T rfl _ _ rfl rfl Y (tC false false false 0 0 0 0 0 0 0 0 false) rfl dt true false y mo d x1 x2 x3 (x : Int) 0 false ?_ ?_ hYb ?_); exact rfl; exact rfl))
                      exact ret_TB rfl rfl rfl rfl rfl (hYb.row _) ⟨⟨_, _, _, _, _, _, _, _, _, _, _, _, rfl⟩, setRow_below hbb bY _⟩
                    · have h93 : ¬ (n : Int) < 1 := by omega
                      have h94 : 9 < (n : Int) := by omega
                      go_wp2_with (first | ((with_reducible refine wpList_load_T rfl _ rfl X (tC dt true false y mo d x1 x2 x3 (x : Int) 0 false) rfl ?_ hXb ?_); exact rfl) | ((with_reducible refine wpList_store_T rfl _ _ rfl rfl Y (tC false false false 0 0 0 0 0 0 0 0 false) rfl dt true false y mo d x1 x2 x3 (x : Int) 0 false ?_ ?_ hYb ?_); exact rfl; exact rfl))
                      exact ret_TB rfl rfl rfl rfl rfl (hYb.row _) ⟨⟨_, _, _, _, _, _, _, _, _, _, _, _, rfl⟩, setRow_below hbb bY _⟩
                    · have h93 : ¬ (n : Int) < 1 := by omega
                      have h94 : ¬ 9 < (n : Int) := by omega
                      go_wp2_with (first | ((with_reducible refine wpList_load_T rfl _ rfl X (tC dt true false y mo d x1 x2 x3 (x : Int) 0 false) rfl ?_ hXb ?_); exact rfl) | ((with_reducible refine wpList_store_T rfl _ _ rfl rfl Y (tC false false false 0 0 0 0 0 0 0 0 false) rfl dt true false y mo d x1 x2 x3 (x : Int) 0 false ?_ ?_ hYb ?_); exact rfl; exact rfl))
                      exact ret_TB rfl rfl rfl rfl rfl (hYb.row _) ⟨rfl, setRow_below hbb bY _⟩
end Go.Proofs.YtbficmdjblimfaaDoor
