/-
  The reference's readers of a date and of a clock by their contracts. Laid by wip/gen/rrd.py.
-/
import Derived.Test.YtbficmdjblimfaaDoorTwo
import Derived.Test.YtbficmdjblimfaaDoorRof
namespace Go.Proofs.YtbficmdjblimfaaDoor
open Go.RowKit
/-- The fields as the reference passes them. -/
abbrev tC (dt tm zn : Bool) (y mo d h mi sc ns off : Int) (lt : Bool) : Array Value := #[.bool dt, .bool tm, .bool zn, .int .i64 y, .int .i64 mo, .int .i64 d, .int .i64 h, .int .i64 mi, .int .i64 sc, .int .i64 ns, .int .i64 off, .bool lt]
def RetT (w : World) (R : Option (Array Value × Nat)) (e : Go.Ending) (w' : World) : Prop :=
  (match R with
    | some p => e = .returned (.tuple #[.agg p.1, .int .i64 (p.2 : Int)])
    | none => ∃ (dt tm zn : Bool) (y mo d h mi sc ns off : Int) (lt : Bool), e = .returned (.tuple #[.agg (tC dt tm zn y mo d h mi sc ns off lt), .int .i64 (-1)])) ∧ Below w.heap.size w w'
theorem rowT : (Tryd.prog.info? 30).map (·.size) = some 12 := by kernel_rfl
theorem heap_alloc_sz (w : World) (o : Obj) : (w.alloc o).heap.size = w.heap.size + 1 := by
  show (w.heap.push o).size = _
  simp
theorem ret_T {fn : Func} {Post : Go.Ending → World → Prop} {a : Act} {w : World} {p q : Tmp} {C D : Array Value} {v : Value} (hfn : fn.results = #[.cell p 30, .tmp q]) (hd : a.defers = [])
    (hp : a.tmps.getD p undef = .pointer (some ⟨w.heap.size + 1, 0, none⟩)) (hv : a.tmps.getD q undef = v) (hsz : D.size = 12)
    (hpost : Below w.heap.size w ((w.alloc (.cells C 30)).alloc (.cells D 30)) → Post (.returned (.tuple #[.agg D, v])) ((w.alloc (.cells C 30)).alloc (.cells D 30))) :
    bodyPost Tryd.prog fn Post Exit.ret a ((w.alloc (.cells C 30)).alloc (.cells D 30)) := by
  have hB := Blk.new (w.alloc (.cells C 30)) 30 D
  rw [heap_alloc_sz] at hB
  exact bodyPost_ret (results_cell_tmp hfn _ _ _ _ D _ v hp hv hB Tryd.underlying30 rfl (rowT.trans (by rw [hsz]))) hd (hpost ((below_alloc _).trans ((below_alloc _).mono (below_alloc _).size)))
theorem optI_none : optI none = -1 := rfl
theorem optI_some (v : Nat) : optI (some v) = (v : Int) := rfl
set_option maxRecDepth 100000 in
set_option maxHeartbeats 8000000 in
theorem rdate_any (s : ByteArray) (w : World) (hs : s.size ≤ 1000000) :
    Calls Tryd.prog 29 #[.string s, .int .i64 0, .agg (tC false false false 0 0 0 0 0 0 0 0 false)] w (RetT w ((Ins.dateAt s.data.toList 0).map fun p => (tC true false false p.1 p.2.1 p.2.2 0 0 0 0 0 false, 10))) := by
  obtain ⟨R, hR⟩ : ∃ R, R = Ins.dateAt s.data.toList 0 := ⟨_, rfl⟩
  rw [← hR]
  unfold Ins.dateAt at hR
  simp only [Nat.zero_add] at hR
  have H1 : Hid (∀ w1, Calls Tryd.prog 42 #[.string s, .int .i64 0, .int .i64 4] w1 fun e w' => e = .returned (.int .i64 (optI (Ins.numAt s.data.toList 0 4))) ∧ w1 = w') := Lib.hid (fun w1 => rtwo_any s 0 4 w1 hs (by decide) (by decide) (by decide))
  have H2 : Hid (∀ w1, Calls Tryd.prog 42 #[.string s, .int .i64 5, .int .i64 2] w1 fun e w' => e = .returned (.int .i64 (optI (Ins.numAt s.data.toList 5 2))) ∧ w1 = w') := Lib.hid (fun w1 => rtwo_any s 5 2 w1 hs (by decide) (by decide) (by decide))
  have H3 : Hid (∀ w1, Calls Tryd.prog 42 #[.string s, .int .i64 8, .int .i64 2] w1 fun e w' => e = .returned (.int .i64 (optI (Ins.numAt s.data.toList 8 2))) ∧ w1 = w') := Lib.hid (fun w1 => rtwo_any s 8 2 w1 hs (by decide) (by decide) (by decide))
  have H4 : Hid (∀ w1, Calls Tryd.prog 31 #[.string s, .int .i64 4, .int .u8 45] w1 fun e w' => e = .returned (.bool (Ins.isAt s.data.toList 4 45)) ∧ w1 = w') := Lib.hid (fun w1 => ris_any s 4 45 w1 hs (by decide))
  have H5 : Hid (∀ w1, Calls Tryd.prog 31 #[.string s, .int .i64 7, .int .u8 45] w1 fun e w' => e = .returned (.bool (Ins.isAt s.data.toList 7 45)) ∧ w1 = w') := Lib.hid (fun w1 => ris_any s 7 45 w1 hs (by decide))
  generalize Ins.numAt s.data.toList 0 4 = o1 at *
  generalize Ins.numAt s.data.toList 5 2 = o2 at *
  generalize Ins.numAt s.data.toList 8 2 = o3 at *
  generalize Ins.isAt s.data.toList 4 45 = b1 at *
  generalize Ins.isAt s.data.toList 7 45 = b2 at *
  obtain ⟨v1, hv1⟩ : ∃ v, v = optI o1 := ⟨_, rfl⟩
  obtain ⟨v2, hv2⟩ : ∃ v, v = optI o2 := ⟨_, rfl⟩
  obtain ⟨v3, hv3⟩ : ∃ v, v = optI o3 := ⟨_, rfl⟩
  rw [← hv1] at H1
  rw [← hv2] at H2
  rw [← hv3] at H3
  unfold tC
  cases o1 with
  | none =>
    have n1 : v1 < 0 := by rw [hv1, optI_none]; decide
    obtain rfl : R = none := hR.trans (by first | rfl | (cases o2 <;> rfl) | (cases o2 <;> cases o3 <;> rfl))
    clear hv1 hv2 hv3 hR
    go_enter Tryd.func29, Tryd.ntmps29
    go_wp2_with (first | (go_at_call 42; with_reducible refine (H1.out _).mono ?_; rintro e w5 ⟨rfl, rfl⟩) | (go_at_call 42; with_reducible refine (H2.out _).mono ?_; rintro e w5 ⟨rfl, rfl⟩) | (go_at_call 42; with_reducible refine (H3.out _).mono ?_; rintro e w5 ⟨rfl, rfl⟩) | (go_at_call 31; with_reducible refine (H4.out _).mono ?_; rintro e w5 ⟨rfl, rfl⟩) | (go_at_call 31; with_reducible refine (H5.out _).mono ?_; rintro e w5 ⟨rfl, rfl⟩))
    refine ret_T rfl rfl rfl rfl rfl fun hb => ?_
    exact ⟨⟨_, _, _, _, _, _, _, _, _, _, _, _, rfl⟩, hb⟩
  | some x1 =>
    have hv1 : v1 = (x1 : Int) := hv1
    subst hv1
    cases o2 with
    | none =>
      have n2 : v2 < 0 := by rw [hv2, optI_none]; decide
      obtain rfl : R = none := hR.trans (by first | rfl | (cases o3 <;> rfl))
      clear hv2 hv3 hR
      go_enter Tryd.func29, Tryd.ntmps29
      go_wp2_with (first | (go_at_call 42; with_reducible refine (H1.out _).mono ?_; rintro e w5 ⟨rfl, rfl⟩) | (go_at_call 42; with_reducible refine (H2.out _).mono ?_; rintro e w5 ⟨rfl, rfl⟩) | (go_at_call 42; with_reducible refine (H3.out _).mono ?_; rintro e w5 ⟨rfl, rfl⟩) | (go_at_call 31; with_reducible refine (H4.out _).mono ?_; rintro e w5 ⟨rfl, rfl⟩) | (go_at_call 31; with_reducible refine (H5.out _).mono ?_; rintro e w5 ⟨rfl, rfl⟩))
      refine ret_T rfl rfl rfl rfl rfl fun hb => ?_
      exact ⟨⟨_, _, _, _, _, _, _, _, _, _, _, _, rfl⟩, hb⟩
    | some x2 =>
      have hv2 : v2 = (x2 : Int) := hv2
      subst hv2
      cases o3 with
      | none =>
        have n3 : v3 < 0 := by rw [hv3, optI_none]; decide
        obtain rfl : R = none := hR
  
        go_enter Tryd.func29, Tryd.ntmps29
        go_wp2_with (first | (go_at_call 42; with_reducible refine (H1.out _).mono ?_; rintro e w5 ⟨rfl, rfl⟩) | (go_at_call 42; with_reducible refine (H2.out _).mono ?_; rintro e w5 ⟨rfl, rfl⟩) | (go_at_call 42; with_reducible refine (H3.out _).mono ?_; rintro e w5 ⟨rfl, rfl⟩) | (go_at_call 31; with_reducible refine (H4.out _).mono ?_; rintro e w5 ⟨rfl, rfl⟩) | (go_at_call 31; with_reducible refine (H5.out _).mono ?_; rintro e w5 ⟨rfl, rfl⟩))
        refine ret_T rfl rfl rfl rfl rfl fun hb => ?_
        exact ⟨⟨_, _, _, _, _, _, _, _, _, _, _, _, rfl⟩, hb⟩
      | some x3 =>
        have hv3 : v3 = (x3 : Int) := hv3
        subst hv3
        cases b1 with
        | false =>
          obtain rfl : R = none := hR.trans (by cases b2 <;> rfl)
          clear hR
          go_enter Tryd.func29, Tryd.ntmps29
          go_wp2_with (first | (go_at_call 42; with_reducible refine (H1.out _).mono ?_; rintro e w5 ⟨rfl, rfl⟩) | (go_at_call 42; with_reducible refine (H2.out _).mono ?_; rintro e w5 ⟨rfl, rfl⟩) | (go_at_call 42; with_reducible refine (H3.out _).mono ?_; rintro e w5 ⟨rfl, rfl⟩) | (go_at_call 31; with_reducible refine (H4.out _).mono ?_; rintro e w5 ⟨rfl, rfl⟩) | (go_at_call 31; with_reducible refine (H5.out _).mono ?_; rintro e w5 ⟨rfl, rfl⟩))
          refine ret_T rfl rfl rfl rfl rfl fun hb => ?_
          exact ⟨⟨_, _, _, _, _, _, _, _, _, _, _, _, rfl⟩, hb⟩
        | true =>
          cases b2 with
          | false =>
            obtain rfl : R = none := hR
            go_enter Tryd.func29, Tryd.ntmps29
            go_wp2_with (first | (go_at_call 42; with_reducible refine (H1.out _).mono ?_; rintro e w5 ⟨rfl, rfl⟩) | (go_at_call 42; with_reducible refine (H2.out _).mono ?_; rintro e w5 ⟨rfl, rfl⟩) | (go_at_call 42; with_reducible refine (H3.out _).mono ?_; rintro e w5 ⟨rfl, rfl⟩) | (go_at_call 31; with_reducible refine (H4.out _).mono ?_; rintro e w5 ⟨rfl, rfl⟩) | (go_at_call 31; with_reducible refine (H5.out _).mono ?_; rintro e w5 ⟨rfl, rfl⟩))
            refine ret_T rfl rfl rfl rfl rfl fun hb => ?_
            exact ⟨⟨_, _, _, _, _, _, _, _, _, _, _, _, rfl⟩, hb⟩
          | true =>
            obtain rfl : R = some (x1, x2, x3) := hR
            go_enter Tryd.func29, Tryd.ntmps29
            go_wp2_with (first | (go_at_call 42; with_reducible refine (H1.out _).mono ?_; rintro e w5 ⟨rfl, rfl⟩) | (go_at_call 42; with_reducible refine (H2.out _).mono ?_; rintro e w5 ⟨rfl, rfl⟩) | (go_at_call 42; with_reducible refine (H3.out _).mono ?_; rintro e w5 ⟨rfl, rfl⟩) | (go_at_call 31; with_reducible refine (H4.out _).mono ?_; rintro e w5 ⟨rfl, rfl⟩) | (go_at_call 31; with_reducible refine (H5.out _).mono ?_; rintro e w5 ⟨rfl, rfl⟩))
            refine ret_T rfl rfl rfl rfl rfl fun hb => ?_
            exact ⟨rfl, hb⟩
end Go.Proofs.YtbficmdjblimfaaDoor
