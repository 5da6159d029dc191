/-
  The reference's Show by its contract. Laid by wip/gen/shw.py.
-/
import Derived.Test.YtbficmdjblimfaaDoorRin
namespace Go.Proofs.YtbficmdjblimfaaDoor
open Go.RowKit
theorem strip_nil : Ins.strip [] = [] := rfl
theorem strip_zero (l : List UInt8) : Ins.strip (l ++ [48]) = Ins.strip l := by
  unfold Ins.strip
  rw [List.reverse_append, List.reverse_singleton, List.singleton_append, List.dropWhile_cons, if_pos (by decide)]
theorem strip_stop (l : List UInt8) (c : UInt8) (h : c ≠ 48) : Ins.strip (l ++ [c]) = l ++ [c] := by
  unfold Ins.strip
  rw [List.reverse_append, List.reverse_singleton, List.singleton_append, List.dropWhile_cons, if_neg (by simpa using h)]
  simp
theorem strip_pad0 : Ins.strip (Ins.pad 9 0) = [] := by decide +kernel
theorem ext_part (s : ByteArray) (k n : Nat) : (s.extract k (k + n)).data.toList = (s.data.toList.drop k).take n := by
  rw [Lib.extract_data]
  simp [List.take_drop]
theorem ext0 (s : ByteArray) (n : Nat) : (s.extract 0 n).data.toList = s.data.toList.take n := by
  have h := ext_part s 0 n
  rwa [Nat.zero_add, List.drop_zero] at h
theorem last_of (F : ByteArray) (k : Nat) (h : F.size = k + 1) : F.data.toList = (F.extract 0 k).data.toList ++ [F[k]] := by
  rw [ext0]
  have hl : k < F.data.toList.length := by rw [size_toList]; omega
  have h2 : F.data.toList = F.data.toList.take (k + 1) := by rw [List.take_of_length_le (by rw [size_toList]; omega)]
  conv => lhs; rw [h2, List.take_succ_eq_append_getElem hl]
  rfl
theorem rpadAt (n u : Nat) (hn : n ≤ 9) (hu : u ≤ 9223372036854775807) : ∃ P : ByteArray, Hid (∀ w2, Calls Tryd.prog 35 #[.int .i64 (u : Int), .int .i64 (n : Int)] w2 fun e w' => e = .returned (.string P) ∧ Below w2.heap.size w2 w') ∧ P.size ≤ 9 ∧ Hid (P.data.toList = Ins.pad n u) :=
  ⟨⟨(Ins.pad n u).toArray⟩, Lib.hid (fun w2 => rpad_any n u (by omega) hu w2), by show (Ins.pad n u).length ≤ 9; rw [Ins.pad_len]; exact hn, Lib.hid rfl⟩
set_option maxRecDepth 100000 in
set_option maxHeartbeats 8000000 in
theorem show_any (m : Ins.M) (w : World) (h1 : m.y ≤ 9999) (h2 : m.mo ≤ 99) (h3 : m.d ≤ 99) (h4 : m.h ≤ 99) (h5 : m.mi ≤ 99) (h6 : m.s ≤ 99) (h7 : m.ns ≤ 999999999) (h8 : m.date = true ∨ m.time = true) (h9 : m.time = false → m.ns = 0) :
    Calls Tryd.prog 21 #[tV m] w fun e w' => e = .returned (.string ⟨(m.text ++ m.tail).toArray⟩) ∧ Below w.heap.size w w' := by
  unfold tV Ins.M.tail
  generalize off m = O
  generalize late m = LT
  have hZT : (if m.z = 0 then ([] : List UInt8) else [90]) = (if (m.z != 0) = true then [90] else []) := by
    by_cases h : m.z = 0
    · rw [if_pos h, h]; rfl
    · rw [if_neg h, if_pos (bne_iff_ne.2 h)]
  rw [hZT]
  generalize (m.z != 0) = ZB
  clear hZT
  obtain ⟨date, time, y, mo, d, hh, mi, s, ns, z, zh, zm⟩ := m
  simp only at h1 h2 h3 h4 h5 h6 h7 h8 h9
  unfold Ins.M.text
  simp only
  obtain ⟨w1, hw1⟩ : ∃ w1, w1 = w.alloc (.cells #[.bool date, .bool time, .bool ZB, .int .i64 (y : Int), .int .i64 (mo : Int), .int .i64 (d : Int), .int .i64 (hh : Int), .int .i64 (mi : Int), .int .i64 (s : Int), .int .i64 (ns : Int), .int .i64 O, .bool LT] 30) := ⟨_, rfl⟩
  have hX := Blk.new w 30 #[.bool date, .bool time, .bool ZB, .int .i64 (y : Int), .int .i64 (mo : Int), .int .i64 (d : Int), .int .i64 (hh : Int), .int .i64 (mi : Int), .int .i64 (s : Int), .int .i64 (ns : Int), .int .i64 O, .bool LT]
  have hb0 := below_alloc (w := w) (.cells #[.bool date, .bool time, .bool ZB, .int .i64 (y : Int), .int .i64 (mo : Int), .int .i64 (d : Int), .int .i64 (hh : Int), .int .i64 (mi : Int), .int .i64 (s : Int), .int .i64 (ns : Int), .int .i64 O, .bool LT] 30)
  rw [← hw1] at hX hb0
  obtain ⟨P0, p0, q0, r0⟩ := rpadAt 4 y (by decide) (by omega)
  obtain ⟨P1, p1, q1, r1⟩ := rpadAt 2 mo (by decide) (by omega)
  obtain ⟨P2, p2, q2, r2⟩ := rpadAt 2 d (by decide) (by omega)
  obtain ⟨P3, p3, q3, r3⟩ := rpadAt 2 hh (by decide) (by omega)
  obtain ⟨P4, p4, q4, r4⟩ := rpadAt 2 mi (by decide) (by omega)
  obtain ⟨P5, p5, q5, r5⟩ := rpadAt 2 s (by decide) (by omega)
  obtain ⟨P9, p9, q9, r9⟩ := rpadAt 9 ns (by decide) (by omega)
  have HW1 := Lib.hid hw1
  clear hw1
  cases date with
  | true =>
    cases time with
    | true =>
      simp only [if_true, Bool.and_self]
      go_enter Tryd.func21, Tryd.ntmps21
      go_wp2_with fail
      rw [← HW1.out]
      clear HW1
      refine wp_region_class_tail (fun w' => Blk w' w.heap.size 30 #[.bool true, .bool true, .bool ZB, .int .i64 (y : Int), .int .i64 (mo : Int), .int .i64 (d : Int), .int .i64 (hh : Int), .int .i64 (mi : Int), .int .i64 (s : Int), .int .i64 (ns : Int), .int .i64 O, .bool LT] ∧ Below w1.heap.size w1 w') 13 (by kernel_rfl) (by kernel_rfl) ⟨hX, (Below.refl _ _).drew⟩ ?_
      simp only [List.take_succ_cons, List.take_zero, List.drop_succ_cons, List.drop_zero]
      refine quiet_of_run rfl (.pointer (some ⟨w.heap.size, 3, none⟩)) (fun w' _ => by kernel_rfl) ?_
      simp only [Act.put, List.setIfInBounds_toArray, List.set_cons_succ, List.set_cons_zero]
      refine quiet_load_blk rfl 3 _ rfl _ 3 _ _ _ (funext Tryd.isAgg3) rfl (fun w' h => h.1) rfl ?_
      simp only [Act.put, List.setIfInBounds_toArray, List.set_cons_succ, List.set_cons_zero]
      refine quiet_call rfl _ rfl 35 rfl (fun _ _ => by kernel_rfl) _ rfl (.string P0) (fun w' h => (p0.out w').mono fun e w2 h2 => ⟨h2.1, h.1.below h2.2 h.1.lt, keepW h2.2 h.2⟩) ?_
      simp only [Act.put, List.setIfInBounds_toArray, List.set_cons_succ, List.set_cons_zero]
      refine quiet_str_add rfl 9 9 _ _ rfl _ _ rfl rfl (by simp only [ByteArray.size_append, c45, c44]; omega) ?_
      simp only [Act.put, List.setIfInBounds_toArray, List.set_cons_succ, List.set_cons_zero]
      refine quiet_of_run rfl (.pointer (some ⟨w.heap.size, 4, none⟩)) (fun w' _ => by kernel_rfl) ?_
      simp only [Act.put, List.setIfInBounds_toArray, List.set_cons_succ, List.set_cons_zero]
      refine quiet_load_blk rfl 3 _ rfl _ 4 _ _ _ (funext Tryd.isAgg3) rfl (fun w' h => h.1) rfl ?_
      simp only [Act.put, List.setIfInBounds_toArray, List.set_cons_succ, List.set_cons_zero]
      refine quiet_call rfl _ rfl 35 rfl (fun _ _ => by kernel_rfl) _ rfl (.string P1) (fun w' h => (p1.out w').mono fun e w2 h2 => ⟨h2.1, h.1.below h2.2 h.1.lt, keepW h2.2 h.2⟩) ?_
      simp only [Act.put, List.setIfInBounds_toArray, List.set_cons_succ, List.set_cons_zero]
      refine quiet_str_add rfl 9 9 _ _ rfl _ _ rfl rfl (by simp only [ByteArray.size_append, c45, c44]; omega) ?_
      simp only [Act.put, List.setIfInBounds_toArray, List.set_cons_succ, List.set_cons_zero]
      refine quiet_str_add rfl 9 9 _ _ rfl _ _ rfl rfl (by simp only [ByteArray.size_append, c45, c44]; omega) ?_
      simp only [Act.put, List.setIfInBounds_toArray, List.set_cons_succ, List.set_cons_zero]
      refine quiet_of_run rfl (.pointer (some ⟨w.heap.size, 5, none⟩)) (fun w' _ => by kernel_rfl) ?_
      simp only [Act.put, List.setIfInBounds_toArray, List.set_cons_succ, List.set_cons_zero]
      refine quiet_load_blk rfl 3 _ rfl _ 5 _ _ _ (funext Tryd.isAgg3) rfl (fun w' h => h.1) rfl ?_
      simp only [Act.put, List.setIfInBounds_toArray, List.set_cons_succ, List.set_cons_zero]
      refine quiet_call rfl _ rfl 35 rfl (fun _ _ => by kernel_rfl) _ rfl (.string P2) (fun w' h => (p2.out w').mono fun e w2 h2 => ⟨h2.1, h.1.below h2.2 h.1.lt, keepW h2.2 h.2⟩) ?_
      simp only [Act.put, List.setIfInBounds_toArray, List.set_cons_succ, List.set_cons_zero]
      refine quiet_str_add rfl 9 9 _ _ rfl _ _ rfl rfl (by simp only [ByteArray.size_append, c45, c44]; omega) ?_
      simp only [Act.put, List.setIfInBounds_toArray, List.set_cons_succ, List.set_cons_zero]
      refine wpQuiet_nil ?_
      rintro w2 ⟨hBw2, hbw2⟩
      have c0 : w2.cell? ⟨w.heap.size, 0, none⟩ = some (.bool true) := hBw2.at_ 0
      have c1 : w2.cell? ⟨w.heap.size, 1, none⟩ = some (.bool true) := hBw2.at_ 1
      go_wp2_with fail
      refine wp_region_class_tail (fun w' => Blk w' w.heap.size 30 #[.bool true, .bool true, .bool ZB, .int .i64 (y : Int), .int .i64 (mo : Int), .int .i64 (d : Int), .int .i64 (hh : Int), .int .i64 (mi : Int), .int .i64 (s : Int), .int .i64 (ns : Int), .int .i64 O, .bool LT] ∧ Below w1.heap.size w1 w') 15 (by kernel_rfl) (by kernel_rfl) ⟨hBw2, Below.drew hbw2⟩ ?_
      simp only [List.take_succ_cons, List.take_zero, List.drop_succ_cons, List.drop_zero]
      go_big_quiet_step (fail)
      refine quiet_of_run rfl (.pointer (some ⟨w.heap.size, 6, none⟩)) (fun w' _ => by kernel_rfl) ?_
      simp only [Act.put, List.setIfInBounds_toArray, List.set_cons_succ, List.set_cons_zero]
      refine quiet_load_blk rfl 3 _ rfl _ 6 _ _ _ (funext Tryd.isAgg3) rfl (fun w' h => h.1) rfl ?_
      simp only [Act.put, List.setIfInBounds_toArray, List.set_cons_succ, List.set_cons_zero]
      refine quiet_call rfl _ rfl 35 rfl (fun _ _ => by kernel_rfl) _ rfl (.string P3) (fun w' h => (p3.out w').mono fun e w2 h2 => ⟨h2.1, h.1.below h2.2 h.1.lt, keepW h2.2 h.2⟩) ?_
      simp only [Act.put, List.setIfInBounds_toArray, List.set_cons_succ, List.set_cons_zero]
      refine quiet_str_add rfl 9 9 _ _ rfl _ _ rfl rfl (by simp only [ByteArray.size_append, c45, c44]; omega) ?_
      simp only [Act.put, List.setIfInBounds_toArray, List.set_cons_succ, List.set_cons_zero]
      refine quiet_str_add rfl 9 9 _ _ rfl _ _ rfl rfl (by simp only [ByteArray.size_append, c45, c44]; omega) ?_
      simp only [Act.put, List.setIfInBounds_toArray, List.set_cons_succ, List.set_cons_zero]
      refine quiet_of_run rfl (.pointer (some ⟨w.heap.size, 7, none⟩)) (fun w' _ => by kernel_rfl) ?_
      simp only [Act.put, List.setIfInBounds_toArray, List.set_cons_succ, List.set_cons_zero]
      refine quiet_load_blk rfl 3 _ rfl _ 7 _ _ _ (funext Tryd.isAgg3) rfl (fun w' h => h.1) rfl ?_
      simp only [Act.put, List.setIfInBounds_toArray, List.set_cons_succ, List.set_cons_zero]
      refine quiet_call rfl _ rfl 35 rfl (fun _ _ => by kernel_rfl) _ rfl (.string P4) (fun w' h => (p4.out w').mono fun e w2 h2 => ⟨h2.1, h.1.below h2.2 h.1.lt, keepW h2.2 h.2⟩) ?_
      simp only [Act.put, List.setIfInBounds_toArray, List.set_cons_succ, List.set_cons_zero]
      refine quiet_str_add rfl 9 9 _ _ rfl _ _ rfl rfl (by simp only [ByteArray.size_append, c45, c44]; omega) ?_
      simp only [Act.put, List.setIfInBounds_toArray, List.set_cons_succ, List.set_cons_zero]
      refine quiet_str_add rfl 9 9 _ _ rfl _ _ rfl rfl (by simp only [ByteArray.size_append, c45, c44]; omega) ?_
      simp only [Act.put, List.setIfInBounds_toArray, List.set_cons_succ, List.set_cons_zero]
      refine quiet_of_run rfl (.pointer (some ⟨w.heap.size, 8, none⟩)) (fun w' _ => by kernel_rfl) ?_
      simp only [Act.put, List.setIfInBounds_toArray, List.set_cons_succ, List.set_cons_zero]
      refine quiet_load_blk rfl 3 _ rfl _ 8 _ _ _ (funext Tryd.isAgg3) rfl (fun w' h => h.1) rfl ?_
      simp only [Act.put, List.setIfInBounds_toArray, List.set_cons_succ, List.set_cons_zero]
      refine quiet_call rfl _ rfl 35 rfl (fun _ _ => by kernel_rfl) _ rfl (.string P5) (fun w' h => (p5.out w').mono fun e w2 h2 => ⟨h2.1, h.1.below h2.2 h.1.lt, keepW h2.2 h.2⟩) ?_
      simp only [Act.put, List.setIfInBounds_toArray, List.set_cons_succ, List.set_cons_zero]
      refine quiet_str_add rfl 9 9 _ _ rfl _ _ rfl rfl (by simp only [ByteArray.size_append, c45, c44]; omega) ?_
      simp only [Act.put, List.setIfInBounds_toArray, List.set_cons_succ, List.set_cons_zero]
      refine wpQuiet_nil ?_
      rintro w3 ⟨hBw3, hbw3⟩
      have d2 : w3.cell? ⟨w.heap.size, 2, none⟩ = some (.bool ZB) := hBw3.at_ 2
      have d9 : w3.cell? ⟨w.heap.size, 9, none⟩ = some (.int .i64 (ns : Int)) := hBw3.at_ 9
      go_wp2_with fail
      refine (p9.out _).mono ?_
      rintro e w6 ⟨rfl, hb6⟩
      have hb7 := keepW hb6 hbw3
      have e2 : w6.cell? ⟨w.heap.size, 2, none⟩ = some (.bool ZB) := (hBw3.below hb6 hBw3.lt).at_ 2
      clear d2 d9
      go_wp2_with fail
      have HS0 : Hid (Ins.strip (Ins.pad 9 ns) = Ins.strip P9.data.toList) := Lib.hid (by rw [r9.out])
      go_loopg [4] P9.size (fun g fv wr => ∃ F : ByteArray, fv = .string F ∧ F.size = g ∧ F.size ≤ 9 ∧ Hid (Ins.strip (Ins.pad 9 ns) = Ins.strip F.data.toList) ∧ w6 = wr)
      case atStart => exact ⟨P9, rfl, rfl, q9, HS0, rfl⟩
      case round =>
        obtain ⟨F, rfl, hFg, hF9, HSF, rfl⟩ := hrel
        cases gk with
        | zero =>
          have HE : Hid (Ins.strip (Ins.pad 9 ns) = []) := Lib.hid (by
            rw [HSF.out, List.eq_nil_of_length_eq_zero (l := F.data.toList) (by rw [size_toList]; exact hFg)]; rfl)
          have hns : ns = 0 := by
            apply Classical.byContradiction
            intro h
            have := (Ins.strip_frac ns h7).2.2 (by omega)
            rw [HE.out] at this
            exact absurd this (by decide)
          have HN := Lib.hid hns
          clear HSF HE hns HS0 r9 p9
          cases ZB with
          | false =>
            go_wp2_with fail
            go_ret
            refine ⟨congrArg (fun x => Ending.returned (Value.string x)) (ba_of ?_), hb0.trans (hb7.mono hb0.size)⟩
            simp only [app_lst, r0.out, r1.out, r2.out, r3.out, r4.out, r5.out]
            simp [Ins.dateT, Ins.hmsT, Ins.fracT, HN.out]
          | true =>
            go_wp2_with fail
            go_ret
            refine ⟨congrArg (fun x => Ending.returned (Value.string x)) (ba_of ?_), hb0.trans (hb7.mono hb0.size)⟩
            simp only [app_lst, r0.out, r1.out, r2.out, r3.out, r4.out, r5.out]
            simp [Ins.dateT, Ins.hmsT, Ins.fracT, HN.out]
        | succ k =>
          have hL := last_of F k hFg
          by_cases hc : F[k] = 48
          · have HS2 : Hid (Ins.strip (Ins.pad 9 ns) = Ins.strip (F.extract 0 k).data.toList) := Lib.hid (by rw [HSF.out, hL, hc, strip_zero])
            have c1 : (F[k].toNat : Int) = 48 := by rw [hc]; rfl
            have hk9 : k ≤ 9 := by omega
            have hez : Hid ((F.extract 0 k).size = k) := Lib.hid (by rw [ByteArray.size_extract]; omega)
            clear hL HSF hc HS0 p9
            go_wp2_with fail
            go_roundg k
            case measure => omega
            case rel => exact ⟨F.extract 0 k, rfl, hez.out, by rw [hez.out]; exact hk9, HS2, rfl⟩
          · have HE : Hid (Ins.strip (Ins.pad 9 ns) = F.data.toList) := Lib.hid (by rw [HSF.out, hL, strip_stop _ _ hc])
            have c1 : ((F[k].toNat : Int) == 48) = false := byte_ne 48 hc
            have hns : ns ≠ 0 := by
              rintro rfl
              have := HE.out
              rw [strip_pad0, hL] at this
              simp at this
            have HN := Lib.hid hns
            have HFr : Hid (Ins.fracT ns = 46 :: F.data.toList) := Lib.hid (by unfold Ins.fracT; rw [if_neg hns, HE.out])
            clear hL HSF hc HE hns HS0 p9
            cases ZB with
            | false =>
              go_wp2_with fail
              go_ret
              refine ⟨congrArg (fun x => Ending.returned (Value.string x)) (ba_of ?_), hb0.trans (hb7.mono hb0.size)⟩
              simp only [app_lst, r0.out, r1.out, r2.out, r3.out, r4.out, r5.out]
              simp [Ins.dateT, Ins.hmsT, HFr.out]
            | true =>
              go_wp2_with fail
              go_ret
              refine ⟨congrArg (fun x => Ending.returned (Value.string x)) (ba_of ?_), hb0.trans (hb7.mono hb0.size)⟩
              simp only [app_lst, r0.out, r1.out, r2.out, r3.out, r4.out, r5.out]
              simp [Ins.dateT, Ins.hmsT, HFr.out]
    | false =>
      have HN := Lib.hid (h9 rfl)
      clear h9
      simp only [if_true, Bool.and_false, Bool.false_eq_true, if_false]
      go_enter Tryd.func21, Tryd.ntmps21
      go_wp2_with fail
      rw [← HW1.out]
      clear HW1
      refine wp_region_class_tail (fun w' => Blk w' w.heap.size 30 #[.bool true, .bool false, .bool ZB, .int .i64 (y : Int), .int .i64 (mo : Int), .int .i64 (d : Int), .int .i64 (hh : Int), .int .i64 (mi : Int), .int .i64 (s : Int), .int .i64 (ns : Int), .int .i64 O, .bool LT] ∧ Below w1.heap.size w1 w') 13 (by kernel_rfl) (by kernel_rfl) ⟨hX, (Below.refl _ _).drew⟩ ?_
      simp only [List.take_succ_cons, List.take_zero, List.drop_succ_cons, List.drop_zero]
      refine quiet_of_run rfl (.pointer (some ⟨w.heap.size, 3, none⟩)) (fun w' _ => by kernel_rfl) ?_
      simp only [Act.put, List.setIfInBounds_toArray, List.set_cons_succ, List.set_cons_zero]
      refine quiet_load_blk rfl 3 _ rfl _ 3 _ _ _ (funext Tryd.isAgg3) rfl (fun w' h => h.1) rfl ?_
      simp only [Act.put, List.setIfInBounds_toArray, List.set_cons_succ, List.set_cons_zero]
      refine quiet_call rfl _ rfl 35 rfl (fun _ _ => by kernel_rfl) _ rfl (.string P0) (fun w' h => (p0.out w').mono fun e w2 h2 => ⟨h2.1, h.1.below h2.2 h.1.lt, keepW h2.2 h.2⟩) ?_
      simp only [Act.put, List.setIfInBounds_toArray, List.set_cons_succ, List.set_cons_zero]
      refine quiet_str_add rfl 9 9 _ _ rfl _ _ rfl rfl (by simp only [ByteArray.size_append, c45, c44]; omega) ?_
      simp only [Act.put, List.setIfInBounds_toArray, List.set_cons_succ, List.set_cons_zero]
      refine quiet_of_run rfl (.pointer (some ⟨w.heap.size, 4, none⟩)) (fun w' _ => by kernel_rfl) ?_
      simp only [Act.put, List.setIfInBounds_toArray, List.set_cons_succ, List.set_cons_zero]
      refine quiet_load_blk rfl 3 _ rfl _ 4 _ _ _ (funext Tryd.isAgg3) rfl (fun w' h => h.1) rfl ?_
      simp only [Act.put, List.setIfInBounds_toArray, List.set_cons_succ, List.set_cons_zero]
      refine quiet_call rfl _ rfl 35 rfl (fun _ _ => by kernel_rfl) _ rfl (.string P1) (fun w' h => (p1.out w').mono fun e w2 h2 => ⟨h2.1, h.1.below h2.2 h.1.lt, keepW h2.2 h.2⟩) ?_
      simp only [Act.put, List.setIfInBounds_toArray, List.set_cons_succ, List.set_cons_zero]
      refine quiet_str_add rfl 9 9 _ _ rfl _ _ rfl rfl (by simp only [ByteArray.size_append, c45, c44]; omega) ?_
      simp only [Act.put, List.setIfInBounds_toArray, List.set_cons_succ, List.set_cons_zero]
      refine quiet_str_add rfl 9 9 _ _ rfl _ _ rfl rfl (by simp only [ByteArray.size_append, c45, c44]; omega) ?_
      simp only [Act.put, List.setIfInBounds_toArray, List.set_cons_succ, List.set_cons_zero]
      refine quiet_of_run rfl (.pointer (some ⟨w.heap.size, 5, none⟩)) (fun w' _ => by kernel_rfl) ?_
      simp only [Act.put, List.setIfInBounds_toArray, List.set_cons_succ, List.set_cons_zero]
      refine quiet_load_blk rfl 3 _ rfl _ 5 _ _ _ (funext Tryd.isAgg3) rfl (fun w' h => h.1) rfl ?_
      simp only [Act.put, List.setIfInBounds_toArray, List.set_cons_succ, List.set_cons_zero]
      refine quiet_call rfl _ rfl 35 rfl (fun _ _ => by kernel_rfl) _ rfl (.string P2) (fun w' h => (p2.out w').mono fun e w2 h2 => ⟨h2.1, h.1.below h2.2 h.1.lt, keepW h2.2 h.2⟩) ?_
      simp only [Act.put, List.setIfInBounds_toArray, List.set_cons_succ, List.set_cons_zero]
      refine quiet_str_add rfl 9 9 _ _ rfl _ _ rfl rfl (by simp only [ByteArray.size_append, c45, c44]; omega) ?_
      simp only [Act.put, List.setIfInBounds_toArray, List.set_cons_succ, List.set_cons_zero]
      refine wpQuiet_nil ?_
      rintro w2 ⟨hBw2, hbw2⟩
      have c0 : w2.cell? ⟨w.heap.size, 0, none⟩ = some (.bool true) := hBw2.at_ 0
      have c1 : w2.cell? ⟨w.heap.size, 1, none⟩ = some (.bool false) := hBw2.at_ 1
      have d2 : w2.cell? ⟨w.heap.size, 2, none⟩ = some (.bool ZB) := hBw2.at_ 2
      cases ZB with
      | false =>
        go_wp2_with fail
        go_ret
        refine ⟨congrArg (fun x => Ending.returned (Value.string x)) (ba_of ?_), hb0.trans (hbw2.mono hb0.size)⟩
        simp only [app_lst, r0.out, r1.out, r2.out]
        simp [Ins.dateT, Ins.hmsT, Ins.fracT, HN.out]
      | true =>
        go_wp2_with fail
        go_ret
        refine ⟨congrArg (fun x => Ending.returned (Value.string x)) (ba_of ?_), hb0.trans (hbw2.mono hb0.size)⟩
        simp only [app_lst, r0.out, r1.out, r2.out]
        simp [Ins.dateT, Ins.hmsT, Ins.fracT, HN.out]
  | false =>
    obtain rfl : time = true := by rcases h8 with h8 | h8; cases h8; exact h8
    · simp only [if_true, Bool.and_true, Bool.false_eq_true, if_false]
      go_enter Tryd.func21, Tryd.ntmps21
      go_wp2_with fail
      rw [← HW1.out]
      clear HW1
      refine wp_region_class_tail (fun w' => Blk w' w.heap.size 30 #[.bool false, .bool true, .bool ZB, .int .i64 (y : Int), .int .i64 (mo : Int), .int .i64 (d : Int), .int .i64 (hh : Int), .int .i64 (mi : Int), .int .i64 (s : Int), .int .i64 (ns : Int), .int .i64 O, .bool LT] ∧ Below w1.heap.size w1 w') 15 (by kernel_rfl) (by kernel_rfl) ⟨hX, (Below.refl _ _).drew⟩ ?_
      simp only [List.take_succ_cons, List.take_zero, List.drop_succ_cons, List.drop_zero]
      go_big_quiet_step (fail)
      refine quiet_of_run rfl (.pointer (some ⟨w.heap.size, 6, none⟩)) (fun w' _ => by kernel_rfl) ?_
      simp only [Act.put, List.setIfInBounds_toArray, List.set_cons_succ, List.set_cons_zero]
      refine quiet_load_blk rfl 3 _ rfl _ 6 _ _ _ (funext Tryd.isAgg3) rfl (fun w' h => h.1) rfl ?_
      simp only [Act.put, List.setIfInBounds_toArray, List.set_cons_succ, List.set_cons_zero]
      refine quiet_call rfl _ rfl 35 rfl (fun _ _ => by kernel_rfl) _ rfl (.string P3) (fun w' h => (p3.out w').mono fun e w2 h2 => ⟨h2.1, h.1.below h2.2 h.1.lt, keepW h2.2 h.2⟩) ?_
      simp only [Act.put, List.setIfInBounds_toArray, List.set_cons_succ, List.set_cons_zero]
      refine quiet_str_add rfl 9 9 _ _ rfl _ _ rfl rfl (by simp only [ByteArray.size_append, c45, c44]; omega) ?_
      simp only [Act.put, List.setIfInBounds_toArray, List.set_cons_succ, List.set_cons_zero]
      refine quiet_str_add rfl 9 9 _ _ rfl _ _ rfl rfl (by simp only [ByteArray.size_append, c45, c44]; omega) ?_
      simp only [Act.put, List.setIfInBounds_toArray, List.set_cons_succ, List.set_cons_zero]
      refine quiet_of_run rfl (.pointer (some ⟨w.heap.size, 7, none⟩)) (fun w' _ => by kernel_rfl) ?_
      simp only [Act.put, List.setIfInBounds_toArray, List.set_cons_succ, List.set_cons_zero]
      refine quiet_load_blk rfl 3 _ rfl _ 7 _ _ _ (funext Tryd.isAgg3) rfl (fun w' h => h.1) rfl ?_
      simp only [Act.put, List.setIfInBounds_toArray, List.set_cons_succ, List.set_cons_zero]
      refine quiet_call rfl _ rfl 35 rfl (fun _ _ => by kernel_rfl) _ rfl (.string P4) (fun w' h => (p4.out w').mono fun e w2 h2 => ⟨h2.1, h.1.below h2.2 h.1.lt, keepW h2.2 h.2⟩) ?_
      simp only [Act.put, List.setIfInBounds_toArray, List.set_cons_succ, List.set_cons_zero]
      refine quiet_str_add rfl 9 9 _ _ rfl _ _ rfl rfl (by simp only [ByteArray.size_append, c45, c44]; omega) ?_
      simp only [Act.put, List.setIfInBounds_toArray, List.set_cons_succ, List.set_cons_zero]
      refine quiet_str_add rfl 9 9 _ _ rfl _ _ rfl rfl (by simp only [ByteArray.size_append, c45, c44]; omega) ?_
      simp only [Act.put, List.setIfInBounds_toArray, List.set_cons_succ, List.set_cons_zero]
      refine quiet_of_run rfl (.pointer (some ⟨w.heap.size, 8, none⟩)) (fun w' _ => by kernel_rfl) ?_
      simp only [Act.put, List.setIfInBounds_toArray, List.set_cons_succ, List.set_cons_zero]
      refine quiet_load_blk rfl 3 _ rfl _ 8 _ _ _ (funext Tryd.isAgg3) rfl (fun w' h => h.1) rfl ?_
      simp only [Act.put, List.setIfInBounds_toArray, List.set_cons_succ, List.set_cons_zero]
      refine quiet_call rfl _ rfl 35 rfl (fun _ _ => by kernel_rfl) _ rfl (.string P5) (fun w' h => (p5.out w').mono fun e w2 h2 => ⟨h2.1, h.1.below h2.2 h.1.lt, keepW h2.2 h.2⟩) ?_
      simp only [Act.put, List.setIfInBounds_toArray, List.set_cons_succ, List.set_cons_zero]
      refine quiet_str_add rfl 9 9 _ _ rfl _ _ rfl rfl (by simp only [ByteArray.size_append, c45, c44]; omega) ?_
      simp only [Act.put, List.setIfInBounds_toArray, List.set_cons_succ, List.set_cons_zero]
      refine wpQuiet_nil ?_
      rintro w3 ⟨hBw3, hbw3⟩
      have d2 : w3.cell? ⟨w.heap.size, 2, none⟩ = some (.bool ZB) := hBw3.at_ 2
      have d9 : w3.cell? ⟨w.heap.size, 9, none⟩ = some (.int .i64 (ns : Int)) := hBw3.at_ 9
      go_wp2_with fail
      refine (p9.out _).mono ?_
      rintro e w6 ⟨rfl, hb6⟩
      have hb7 := keepW hb6 hbw3
      have e2 : w6.cell? ⟨w.heap.size, 2, none⟩ = some (.bool ZB) := (hBw3.below hb6 hBw3.lt).at_ 2
      clear d2 d9
      go_wp2_with fail
      have HS0 : Hid (Ins.strip (Ins.pad 9 ns) = Ins.strip P9.data.toList) := Lib.hid (by rw [r9.out])
      go_loopg [4] P9.size (fun g fv wr => ∃ F : ByteArray, fv = .string F ∧ F.size = g ∧ F.size ≤ 9 ∧ Hid (Ins.strip (Ins.pad 9 ns) = Ins.strip F.data.toList) ∧ w6 = wr)
      case atStart => exact ⟨P9, rfl, rfl, q9, HS0, rfl⟩
      case round =>
        obtain ⟨F, rfl, hFg, hF9, HSF, rfl⟩ := hrel
        cases gk with
        | zero =>
          have HE : Hid (Ins.strip (Ins.pad 9 ns) = []) := Lib.hid (by
            rw [HSF.out, List.eq_nil_of_length_eq_zero (l := F.data.toList) (by rw [size_toList]; exact hFg)]; rfl)
          have hns : ns = 0 := by
            apply Classical.byContradiction
            intro h
            have := (Ins.strip_frac ns h7).2.2 (by omega)
            rw [HE.out] at this
            exact absurd this (by decide)
          have HN := Lib.hid hns
          clear HSF HE hns HS0 r9 p9
          cases ZB with
          | false =>
            go_wp2_with fail
            go_ret
            refine ⟨congrArg (fun x => Ending.returned (Value.string x)) (ba_of ?_), hb0.trans (hb7.mono hb0.size)⟩
            simp only [app_lst, r3.out, r4.out, r5.out]
            simp [Ins.dateT, Ins.hmsT, Ins.fracT, HN.out]
          | true =>
            go_wp2_with fail
            go_ret
            refine ⟨congrArg (fun x => Ending.returned (Value.string x)) (ba_of ?_), hb0.trans (hb7.mono hb0.size)⟩
            simp only [app_lst, r3.out, r4.out, r5.out]
            simp [Ins.dateT, Ins.hmsT, Ins.fracT, HN.out]
        | succ k =>
          have hL := last_of F k hFg
          by_cases hc : F[k] = 48
          · have HS2 : Hid (Ins.strip (Ins.pad 9 ns) = Ins.strip (F.extract 0 k).data.toList) := Lib.hid (by rw [HSF.out, hL, hc, strip_zero])
            have c1 : (F[k].toNat : Int) = 48 := by rw [hc]; rfl
            have hk9 : k ≤ 9 := by omega
            have hez : Hid ((F.extract 0 k).size = k) := Lib.hid (by rw [ByteArray.size_extract]; omega)
            clear hL HSF hc HS0 p9
            go_wp2_with fail
            go_roundg k
            case measure => omega
            case rel => exact ⟨F.extract 0 k, rfl, hez.out, by rw [hez.out]; exact hk9, HS2, rfl⟩
          · have HE : Hid (Ins.strip (Ins.pad 9 ns) = F.data.toList) := Lib.hid (by rw [HSF.out, hL, strip_stop _ _ hc])
            have c1 : ((F[k].toNat : Int) == 48) = false := byte_ne 48 hc
            have hns : ns ≠ 0 := by
              rintro rfl
              have := HE.out
              rw [strip_pad0, hL] at this
              simp at this
            have HN := Lib.hid hns
            have HFr : Hid (Ins.fracT ns = 46 :: F.data.toList) := Lib.hid (by unfold Ins.fracT; rw [if_neg hns, HE.out])
            clear hL HSF hc HE hns HS0 p9
            cases ZB with
            | false =>
              go_wp2_with fail
              go_ret
              refine ⟨congrArg (fun x => Ending.returned (Value.string x)) (ba_of ?_), hb0.trans (hb7.mono hb0.size)⟩
              simp only [app_lst, r3.out, r4.out, r5.out]
              simp [Ins.dateT, Ins.hmsT, HFr.out]
            | true =>
              go_wp2_with fail
              go_ret
              refine ⟨congrArg (fun x => Ending.returned (Value.string x)) (ba_of ?_), hb0.trans (hb7.mono hb0.size)⟩
              simp only [app_lst, r3.out, r4.out, r5.out]
              simp [Ins.dateT, Ins.hmsT, HFr.out]
end Go.Proofs.YtbficmdjblimfaaDoor
