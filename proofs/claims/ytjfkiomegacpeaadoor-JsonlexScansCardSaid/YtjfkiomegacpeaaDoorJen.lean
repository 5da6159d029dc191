/-
  ref01.Encode, ref01.Scalar; the law's hex.
-/
import Derived.Test.YtjfkiomegacpeaaDoorJsV
import Derived.Test.YtjfkiomegacpeaaDoorJs3
import Derived.BigQuiet
namespace Go.Proofs.YtjfkiomegacpeaaDoor
open Go.RowKit
section
variable {P : Program} {w : World} {ops : Array Oper} {rest : List Oper} {o : Oper} {a : Act} {Q : Exit → Act → World → Prop}
theorem wpList_cells_string (hgd : o.guard = none) (src dst : TypeId) (x : Operand) (ho : o.op = .convert src dst x) (e : TypeId) (hs : P.underlying src = some (.slice e)) (he : P.underlying e = some (.int .u8)) (hd : P.underlying dst = some .string)
    (g n cap : Nat) (l : List UInt8) (hn : n = l.length) (hx : a.eval x = .slice (some ⟨g, 0, none⟩) n cap) (hc : ∀ j, j < n → w.cell? ⟨g, j, none⟩ = some (.int .u8 (byteAt l j)))
    (h : wpList P ops Q rest (a.put o.dst (.string ⟨l.toArray⟩)) w) : wpList P ops Q (o :: rest) a w := by
  refine wpList_plain hgd fun K hK => ?_
  subst hn
  have hrun := run_cells_string (P := P) (w := w) src dst e hs he hd g 0 cap l (fun j hj => by rw [Nat.zero_add]; exact hc j hj)
  unfold Oper.wp execOp
  simp only [ho, hx, Sem.run_bind, hrun, Result.andThen_ok]
  exact hK _ _ h
end
theorem new_bytes (w : World) (vs : List Int) (l : List UInt8) (T : TypeId) (h : l.map (fun b : UInt8 => (b.toNat : Int)) = vs) :
    ∀ j, j < l.length → (w.alloc (.cells (vs.map (Value.int .u8 ·)).toArray T)).cell? ⟨w.heap.size, j, none⟩ = some (.int .u8 (byteAt l j)) := by
  intro j hj
  subst h
  rw [(Blk.new w T _).at_ j]
  unfold byteAt
  rw [List.getElem?_toArray, List.getElem?_map, List.getElem?_map, List.getElem?_eq_getElem hj, List.getD_eq_getElem?_getD, List.getElem?_eq_getElem hj]
  rfl
set_option maxRecDepth 100000 in
set_option maxHeartbeats 4000000 in
theorem encode_any (r : Nat) (hr : r ≤ 1114111) (w : World) :
    Calls Tryd.prog 14 #[.int .i32 (r : Int)] w fun e w' => e = .returned (.string ⟨(Jsn.enc r).toArray⟩) ∧ Below w.heap.size w w' := by
  unfold Jsn.enc
  by_cases h1 : r < 128
  · rw [if_pos h1]
    have f1 : (r : Int) < 128 := by omega
    have HL : [UInt8.ofNat r].map (fun b : UInt8 => (b.toNat : Int)) = [(r : Int)] := by
      simp only [List.map_cons, List.map_nil]
      rw [u8_ofNat _ (by omega)]
    have HC := Lib.hid (new_bytes w _ _ 5 HL)
    clear HL
    go_enter Tryd.func14, Tryd.ntmps14
    go_wp2_with ((with_reducible refine wpList_cells_string rfl 39 9 (.tmp 10) rfl 5 Tryd.underlying39 (by kernel_rfl) (by kernel_rfl) w.heap.size 1 1 [UInt8.ofNat r] rfl ?_ ?_ ?_); exact rfl; exact HC.out)
    go_ret
    exact ⟨rfl, below_alloc _⟩
  · rw [if_neg h1]
    by_cases h2 : r < 2048
    · rw [if_pos h2]
      have f1 : ¬ (r : Int) < 128 := by omega
      have f2 : (r : Int) < 2048 := by omega
      have HL : [UInt8.ofNat (192 + r / 64), UInt8.ofNat (128 + r % 64)].map (fun b : UInt8 => (b.toNat : Int)) = [192 + (r : Int) / 64, 128 + (r : Int) % 64] := by
        simp only [List.map_cons, List.map_nil]
        rw [u8_ofNat _ (by omega), u8_ofNat _ (by omega)]
        simp only [List.cons.injEq, and_true]
        omega
      have HC := Lib.hid (new_bytes w _ _ 5 HL)
      clear HL
      go_enter Tryd.func14, Tryd.ntmps14
      go_wp2_with ((with_reducible refine wpList_cells_string rfl 39 9 (.tmp 22) rfl 5 Tryd.underlying39 (by kernel_rfl) (by kernel_rfl) w.heap.size 2 2 [UInt8.ofNat (192 + r / 64), UInt8.ofNat (128 + r % 64)] rfl ?_ ?_ ?_); exact rfl; exact HC.out)
      go_ret
      exact ⟨rfl, below_alloc _⟩
    · rw [if_neg h2]
      by_cases h3 : r < 65536
      · rw [if_pos h3]
        have f1 : ¬ (r : Int) < 128 := by omega
        have f2 : ¬ (r : Int) < 2048 := by omega
        have f3 : (r : Int) < 65536 := by omega
        have HL : [UInt8.ofNat (224 + r / 4096), UInt8.ofNat (128 + r / 64 % 64), UInt8.ofNat (128 + r % 64)].map (fun b : UInt8 => (b.toNat : Int)) = [224 + (r : Int) / 4096, 128 + (r : Int) / 64 % 64, 128 + (r : Int) % 64] := by
          simp only [List.map_cons, List.map_nil]
          rw [u8_ofNat _ (by omega), u8_ofNat _ (by omega), u8_ofNat _ (by omega)]
          simp only [List.cons.injEq, and_true]
          omega
        have HC := Lib.hid (new_bytes w _ _ 5 HL)
        clear HL
        go_enter Tryd.func14, Tryd.ntmps14
        go_wp2_with ((with_reducible refine wpList_cells_string rfl 39 9 (.tmp 39) rfl 5 Tryd.underlying39 (by kernel_rfl) (by kernel_rfl) w.heap.size 3 3 [UInt8.ofNat (224 + r / 4096), UInt8.ofNat (128 + r / 64 % 64), UInt8.ofNat (128 + r % 64)] rfl ?_ ?_ ?_); exact rfl; exact HC.out)
        go_ret
        exact ⟨rfl, below_alloc _⟩
      · rw [if_neg h3]
        have f1 : ¬ (r : Int) < 128 := by omega
        have f2 : ¬ (r : Int) < 2048 := by omega
        have f3 : ¬ (r : Int) < 65536 := by omega
        have HL : [UInt8.ofNat (240 + r / 262144), UInt8.ofNat (128 + r / 4096 % 64), UInt8.ofNat (128 + r / 64 % 64), UInt8.ofNat (128 + r % 64)].map (fun b : UInt8 => (b.toNat : Int)) = [240 + (r : Int) / 262144, 128 + (r : Int) / 4096 % 64, 128 + (r : Int) / 64 % 64, 128 + (r : Int) % 64] := by
          simp only [List.map_cons, List.map_nil]
          rw [u8_ofNat _ (by omega), u8_ofNat _ (by omega), u8_ofNat _ (by omega), u8_ofNat _ (by omega)]
          simp only [List.cons.injEq, and_true]
          omega
        have HC := Lib.hid (new_bytes w _ _ 5 HL)
        clear HL
        go_enter Tryd.func14, Tryd.ntmps14
        go_wp2_with ((with_reducible refine wpList_cells_string rfl 39 9 (.tmp 59) rfl 5 Tryd.underlying39 (by kernel_rfl) (by kernel_rfl) w.heap.size 4 4 [UInt8.ofNat (240 + r / 262144), UInt8.ofNat (128 + r / 4096 % 64), UInt8.ofNat (128 + r / 64 % 64), UInt8.ofNat (128 + r % 64)] rfl ?_ ?_ ?_); exact rfl; exact HC.out)
        go_ret
        exact ⟨rfl, below_alloc _⟩
section
variable {P : Program} {w : World} {ops : Array Oper} {o : Oper} {a : Act} {K : Act → World → Prop} {Q : Exit → Act → World → Prop} {E : Prop}
theorem step_cells_string (hw : Region.wanted o (yielded ops a.tmps) = true) (src dst : TypeId) (x : Operand) (ho : o.op = .convert src dst x) (e : TypeId) (hs : P.underlying src = some (.slice e)) (he : P.underlying e = some (.int .u8)) (hd : P.underlying dst = some .string)
    (g n cap : Nat) (l : List UInt8) (hn : n = l.length) (hx : a.eval x = .slice (some ⟨g, 0, none⟩) n cap) (hc : ∀ j, j < n → w.cell? ⟨g, j, none⟩ = some (.int .u8 (byteAt l j)))
    (h : K (a.put o.dst (.string ⟨l.toArray⟩)) w) : if Region.wanted o (yielded ops a.tmps) = true then Oper.wp P o a w K Q else E := by
  rw [if_pos hw]
  subst hn
  unfold Oper.wp execOp
  simp only [ho, hx, Sem.run_bind, run_cells_string (P := P) (w := w) src dst e hs he hd g 0 cap l (fun j hj => by rw [Nat.zero_add]; exact hc j hj), Result.andThen_ok]
  exact h
end
theorem scalar_any (v : Int) (w : World) :
    Calls Tryd.prog 13 #[.int .i32 v] w fun e w' => (e = .returned (.bool true) ∧ (∃ r : Nat, v = r ∧ Jsn.scalar r) ∨ e = .returned (.bool false)) ∧ w' = w := by
  by_cases h0 : 0 ≤ v
  · by_cases h1 : v ≤ 1114111
    · by_cases h2 : v < 55296
      · go_enter Tryd.func13, Tryd.ntmps13
        go_wp2_with fail
        go_ret
        exact ⟨Or.inl ⟨rfl, v.toNat, by omega, Or.inl (by omega), by omega⟩, rfl⟩
      · by_cases h3 : 57343 < v
        · go_enter Tryd.func13, Tryd.ntmps13
          go_wp2_with fail
          go_ret
          exact ⟨Or.inl ⟨rfl, v.toNat, by omega, Or.inr (by omega), by omega⟩, rfl⟩
        · go_enter Tryd.func13, Tryd.ntmps13
          go_wp2_with fail
          go_ret
          exact ⟨Or.inr rfl, rfl⟩
    · go_enter Tryd.func13, Tryd.ntmps13
      go_wp2_with fail
      go_ret
      exact ⟨Or.inr rfl, rfl⟩
  · go_enter Tryd.func13, Tryd.ntmps13
    go_wp2_with fail
    go_ret
    exact ⟨Or.inr rfl, rfl⟩
theorem hex4_len (up : Bool) (n : Nat) : 4 = (Jsn.hex4 up n).length := rfl
theorem hexd_lo : ∀ n (h : n < 16), (⟨#[48, 49, 50, 51, 52, 53, 54, 55, 56, 57, 97, 98, 99, 100, 101, 102]⟩ : ByteArray)[n]'h = Jsn.hexd false n := by decide +kernel
theorem hexd_up : ∀ n (h : n < 16), (⟨#[48, 49, 50, 51, 52, 53, 54, 55, 56, 57, 65, 66, 67, 68, 69, 70]⟩ : ByteArray)[n]'h = Jsn.hexd true n := by decide +kernel
set_option maxRecDepth 100000 in
set_option maxHeartbeats 4000000 in
theorem hex_any (n : Nat) (up : Bool) (hn : n < 65536) (w : World) :
    Calls Tryd.prog 24 #[.int .i64 (n : Int), .bool up] w fun e w' => e = .returned (.string ⟨(Jsn.hex4 up n).toArray⟩) ∧ Below w.heap.size w w' := by
  obtain ⟨D, hD⟩ : ∃ D : ByteArray, D = if up then ⟨#[48, 49, 50, 51, 52, 53, 54, 55, 56, 57, 65, 66, 67, 68, 69, 70]⟩ else ⟨#[48, 49, 50, 51, 52, 53, 54, 55, 56, 57, 97, 98, 99, 100, 101, 102]⟩ := ⟨_, rfl⟩
  have hz : D.size = 16 := by subst hD; cases up <;> rfl
  have hG : ∀ k (h : k < D.size), D[k] = Jsn.hexd up k := by
    subst hD
    cases up with
    | true => exact fun k h => hexd_up k h
    | false => exact fun k h => hexd_lo k h
  have HG := Lib.hid hG
  have HD := Lib.hid hD
  have z1 : (16 : Int) ≤ D.size := by omega
  have z2 : (D.size : Int) ≤ 16 := by omega
  clear hG hD hz
  have a0 : (0 : Int) ≤ (n : Int) / 4096 % 16 := by omega
  have a1 : (n : Int) / 4096 % 16 < D.size := by omega
  have b0 : (0 : Int) ≤ (n : Int) / 256 % 16 := by omega
  have b1 : (n : Int) / 256 % 16 < D.size := by omega
  have c0 : (0 : Int) ≤ (n : Int) / 16 % 16 := by omega
  have c1 : (n : Int) / 16 % 16 < D.size := by omega
  have d0 : (0 : Int) ≤ (n : Int) % 16 := by omega
  have d1 : (n : Int) % 16 < D.size := by omega
  have q1 : IntKind.i64.wrap ((n : Int) / 4096) = (n : Int) / 4096 := IntWalk.i64_in _ (by omega)
  have q2 : IntKind.i64.wrap ((n : Int) / 256) = (n : Int) / 256 := IntWalk.i64_in _ (by omega)
  have q3 : IntKind.i64.wrap ((n : Int) / 16) = (n : Int) / 16 := IntWalk.i64_in _ (by omega)
  have t1 : ((n : Int) / 4096).tmod 16 = (n : Int) / 4096 % 16 := Int.tmod_eq_emod_of_nonneg (by omega)
  have t2 : ((n : Int) / 256).tmod 16 = (n : Int) / 256 % 16 := Int.tmod_eq_emod_of_nonneg (by omega)
  have t3 : ((n : Int) / 16).tmod 16 = (n : Int) / 16 % 16 := Int.tmod_eq_emod_of_nonneg (by omega)
  have t4 : (n : Int).tmod 16 = (n : Int) % 16 := Int.tmod_eq_emod_of_nonneg (by omega)
  have HL : Hid (∀ (i0 i1 i2 i3 : Nat) (h0 : i0 < D.size) (h1 : i1 < D.size) (h2 : i2 < D.size) (h3 : i3 < D.size), i0 = n / 4096 % 16 → i1 = n / 256 % 16 → i2 = n / 16 % 16 → i3 = n % 16 →
      (Jsn.hex4 up n).map (fun b : UInt8 => (b.toNat : Int)) = [(D[i0].toNat : Int), (D[i1].toNat : Int), (D[i2].toNat : Int), (D[i3].toNat : Int)]) := Lib.hid (fun i0 i1 i2 i3 h0 h1 h2 h3 e0 e1 e2 e3 => by
    rw [HG.out i0 h0, HG.out i1 h1, HG.out i2 h2, HG.out i3 h3, e0, e1, e2, e3]
    rfl)
  clear HG
  cases up with
  | false =>
    have hD := HD.out
    simp only [if_true, Bool.false_eq_true, if_false] at hD
    have HD2 := Lib.hid hD
    clear HD hD
    go_enter Tryd.func24, Tryd.ntmps24
    go_wp2_with fail
    rw [← HD2.out]
    clear HD2
    refine wp_region_quiet_tail 19 (by kernel_rfl) (by kernel_rfl) ?_
    simp only [List.take_succ_cons, List.take_zero, List.drop_succ_cons, List.drop_zero]
    repeat (go_big_quiet_step (fail))
    refine wpQuiet_nil ?_
    go_wp2_with ((with_reducible refine wpList_cells_string rfl 39 9 (.tmp 26) rfl 5 Tryd.underlying39 (by kernel_rfl) (by kernel_rfl) w.heap.size 4 4 (Jsn.hex4 false n) (hex4_len _ _) ?_ ?_ ?_); exact rfl; exact new_bytes w.drew [_, _, _, _] (Jsn.hex4 false n) 5 (HL.out _ _ _ _ (by omega) (by omega) (by omega) (by omega) (by omega) (by omega) (by omega) (by omega)))
    go_ret
    exact ⟨rfl, (below_alloc (w := w) _).drew⟩
  | true =>
    have hD := HD.out
    simp only [if_true, Bool.false_eq_true, if_false] at hD
    have HD2 := Lib.hid hD
    clear HD hD
    go_enter Tryd.func24, Tryd.ntmps24
    go_wp2_with fail
    rw [← HD2.out]
    clear HD2
    refine wp_region_quiet_tail 19 (by kernel_rfl) (by kernel_rfl) ?_
    simp only [List.take_succ_cons, List.take_zero, List.drop_succ_cons, List.drop_zero]
    repeat (go_big_quiet_step (fail))
    refine wpQuiet_nil ?_
    go_wp2_with ((with_reducible refine wpList_cells_string rfl 39 9 (.tmp 26) rfl 5 Tryd.underlying39 (by kernel_rfl) (by kernel_rfl) w.heap.size 4 4 (Jsn.hex4 true n) (hex4_len _ _) ?_ ?_ ?_); exact rfl; exact new_bytes w.drew [_, _, _, _] (Jsn.hex4 true n) 5 (HL.out _ _ _ _ (by omega) (by omega) (by omega) (by omega) (by omega) (by omega) (by omega) (by omega)))
    go_ret
    exact ⟨rfl, (below_alloc (w := w) _).drew⟩
end Go.Proofs.YtjfkiomegacpeaaDoor
