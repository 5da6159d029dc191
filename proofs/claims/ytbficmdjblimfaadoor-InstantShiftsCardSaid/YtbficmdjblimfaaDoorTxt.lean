/-
  instant's text of a moment by its contract.
-/
import Derived.Test.YtbficmdjblimfaaDoorPad
namespace Go.Proofs.YtbficmdjblimfaaDoor
open Go.RowKit
def shape (m : Ins.M) : Nat := (if m.date then 1 else 0) + (if m.time then 2 else 0)
/-- A moment as the program passes it. -/
def momV (m : Ins.M) : Value := .agg #[.int .i64 (shape m : Int), .int .i64 (m.y : Int), .int .i64 (m.mo : Int), .int .i64 (m.d : Int), .int .i64 (m.h : Int), .int .i64 (m.mi : Int), .int .i64 (m.s : Int), .int .i64 (m.zh : Int), .int .i64 (m.zm : Int), .int .i64 (m.ns : Int), .int .u8 (m.z.toNat : Int)]
theorem momKeep {w1 w' : World} {b : Nat} {T : TypeId} {c0 c1 c2 c3 c4 c5 c6 c7 c8 c9 c10 : Value} (h : Blk w1 b T #[c0, c1, c2, c3, c4, c5, c6, c7, c8, c9, c10]) (hb : Below w1.heap.size w1 w') :
    w'.cell? ⟨b, 0, none⟩ = some c0 ∧ w'.cell? ⟨b, 1, none⟩ = some c1 ∧ w'.cell? ⟨b, 2, none⟩ = some c2 ∧ w'.cell? ⟨b, 3, none⟩ = some c3 ∧ w'.cell? ⟨b, 4, none⟩ = some c4 ∧ w'.cell? ⟨b, 5, none⟩ = some c5 ∧ w'.cell? ⟨b, 6, none⟩ = some c6 ∧ w'.cell? ⟨b, 7, none⟩ = some c7 ∧ w'.cell? ⟨b, 8, none⟩ = some c8 ∧ w'.cell? ⟨b, 9, none⟩ = some c9 ∧ w'.cell? ⟨b, 10, none⟩ = some c10 ∧ Below w1.heap.size w1 w' := by
  have h2 := h.below hb h.lt
  exact ⟨h2.at_ 0, h2.at_ 1, h2.at_ 2, h2.at_ 3, h2.at_ 4, h2.at_ 5, h2.at_ 6, h2.at_ 7, h2.at_ 8, h2.at_ 9, h2.at_ 10, hb⟩
section
variable {P : Program} {ops : Array Oper} {C : World → Prop} {Q : Act → Prop} {rest : List Oper} {o : Oper} {a : Act}
/-- A cell of a struct's block that the class keeps. -/
theorem quiet_load_blk (hgd : o.guard = none) (ty : TypeId) (x : Operand) (ho : o.op = .load ty x) (g j : Nat) (T : TypeId) (cs : Array Value) (v : Value) (hag : (isAgg ty).run P = fun w => .ok false w)
    (hx : a.eval x = .pointer (some ⟨g, j, none⟩)) (hc : ∀ w, C w → Blk w g T cs) (hv : cs[j]? = some v) (hk : wpQuiet P ops C Q rest (a.put o.dst v)) : wpQuiet P ops C Q (o :: rest) a :=
  quiet_load_cell hgd ty x ho _ v hag hx (fun w hw => ((hc w hw).at_ j).trans hv) hk
end
theorem keepW {w w' W : World} (hb : Below w.heap.size w w') (h : Below W.heap.size W w) : Below W.heap.size W w' := h.trans (hb.mono h.size)
def PadAt (w1 : World) (u n : Int) (P : ByteArray) : Prop := Hid (∀ w2, Below w1.heap.size w1 w2 → Calls Tryd.prog 40 #[.int .i64 u, .int .i64 n] w2 fun e w' => e = .returned (.string P) ∧ Below w2.heap.size w2 w')
theorem PadAt.call {w1 : World} {u n : Int} {P : ByteArray} (h : PadAt w1 u n P) (w2 : World) (hb : Below w1.heap.size w1 w2) : Calls Tryd.prog 40 #[.int .i64 u, .int .i64 n] w2 fun e w' => e = .returned (.string P) ∧ Below w2.heap.size w2 w' := Hid.out h w2 hb
theorem padAt (w1 : World) (n u : Nat) (h0 : 0 < n) (h9 : n ≤ 9) (hu : u < 10 ^ n) (hE : EnvI w1) : ∃ P : ByteArray, PadAt w1 (u : Int) (n : Int) P ∧ P.size ≤ 9 ∧ Hid (P.data.toList = Ins.pad n u) :=
  ⟨⟨(Ins.pad n u).toArray⟩, Lib.hid (fun w2 hb => pad_any n u h0 h9 hu w2 (hE.below hb)), by show (Ins.pad n u).length ≤ 9; rw [Ins.pad_len]; exact h9, Lib.hid rfl⟩
theorem c44 : (⟨#[]⟩ : ByteArray).size = 0 := rfl
theorem c45 (c : UInt8) : (⟨#[c]⟩ : ByteArray).size = 1 := rfl
set_option maxRecDepth 100000 in
set_option maxHeartbeats 8000000 in
theorem text_any (m : Ins.M) (w : World) (h1 : m.y ≤ 9999) (h2 : m.mo ≤ 99) (h3 : m.d ≤ 99) (h4 : m.h ≤ 99) (h5 : m.mi ≤ 99) (h6 : m.s ≤ 99) (h7 : m.ns ≤ 999999999) (h8 : m.date = true ∨ m.time = true) (hE : EnvI w) :
    Calls Tryd.prog 28 #[momV m] w fun e w' => e = .returned (.string ⟨m.text.toArray⟩) ∧ Below w.heap.size w w' := by
  obtain ⟨date, time, y, mo, d, hh, mi, s, ns, z, zh, zm⟩ := m
  simp only at h1 h2 h3 h4 h5 h6 h7 h8
  unfold momV shape Ins.M.text
  simp only
  obtain ⟨sh, hsh⟩ : ∃ sh : Int, sh = (((if date then 1 else 0) + (if time then 2 else 0) : Nat) : Int) := ⟨_, rfl⟩
  rw [← hsh]
  obtain ⟨w1, hw1⟩ : ∃ w1, w1 = w.alloc (.cells #[.int .i64 sh, .int .i64 (y : Int), .int .i64 (mo : Int), .int .i64 (d : Int), .int .i64 (hh : Int), .int .i64 (mi : Int), .int .i64 (s : Int), .int .i64 (zh : Int), .int .i64 (zm : Int), .int .i64 (ns : Int), .int .u8 (z.toNat : Int)] 47) := ⟨_, rfl⟩
  have hX := Blk.new w 47 #[.int .i64 sh, .int .i64 (y : Int), .int .i64 (mo : Int), .int .i64 (d : Int), .int .i64 (hh : Int), .int .i64 (mi : Int), .int .i64 (s : Int), .int .i64 (zh : Int), .int .i64 (zm : Int), .int .i64 (ns : Int), .int .u8 (z.toNat : Int)]
  have hb0 := below_alloc (w := w) (.cells #[.int .i64 sh, .int .i64 (y : Int), .int .i64 (mo : Int), .int .i64 (d : Int), .int .i64 (hh : Int), .int .i64 (mi : Int), .int .i64 (s : Int), .int .i64 (zh : Int), .int .i64 (zm : Int), .int .i64 (ns : Int), .int .u8 (z.toNat : Int)] 47)
  rw [← hw1] at hX hb0
  have hE1 := hE.below hb0
  obtain ⟨P0, p0, q0, r0⟩ := padAt w1 4 y (by decide) (by decide) (by omega) hE1
  obtain ⟨P1, p1, q1, r1⟩ := padAt w1 2 mo (by decide) (by decide) (by omega) hE1
  obtain ⟨P2, p2, q2, r2⟩ := padAt w1 2 d (by decide) (by decide) (by omega) hE1
  obtain ⟨P3, p3, q3, r3⟩ := padAt w1 2 hh (by decide) (by decide) (by omega) hE1
  obtain ⟨P4, p4, q4, r4⟩ := padAt w1 2 mi (by decide) (by decide) (by omega) hE1
  obtain ⟨P5, p5, q5, r5⟩ := padAt w1 2 s (by decide) (by decide) (by omega) hE1
  obtain ⟨P9, p9, q9, r9⟩ := padAt w1 9 ns (by decide) (by decide) (by omega) hE1
  have p0 : PadAt w1 (y : Int) 4 P0 := p0
  have p1 : PadAt w1 (mo : Int) 2 P1 := p1
  have p2 : PadAt w1 (d : Int) 2 P2 := p2
  have p3 : PadAt w1 (hh : Int) 2 P3 := p3
  have p4 : PadAt w1 (mi : Int) 2 P4 := p4
  have p5 : PadAt w1 (s : Int) 2 P5 := p5
  have p9 : PadAt w1 (ns : Int) 9 P9 := p9
  have HW1 := Lib.hid hw1
  clear hE hE1 hw1
  cases date with
  | true =>
    cases time with
    | true =>
      obtain rfl : sh = 3 := hsh
      simp only [if_true, Bool.and_self]
      go_enter Tryd.func28, Tryd.ntmps28
      go_wp2_with fail
      rw [← HW1.out]
      clear HW1
      refine wp_region_class_tail (fun w' => Blk w' w.heap.size 47 #[.int .i64 3, .int .i64 (y : Int), .int .i64 (mo : Int), .int .i64 (d : Int), .int .i64 (hh : Int), .int .i64 (mi : Int), .int .i64 (s : Int), .int .i64 (zh : Int), .int .i64 (zm : Int), .int .i64 (ns : Int), .int .u8 (z.toNat : Int)] ∧ Below w1.heap.size w1 w') 16 (by kernel_rfl) (by kernel_rfl) ⟨hX, (Below.refl _ _).drew⟩ ?_
      simp only [List.take_succ_cons, List.take_zero, List.drop_succ_cons, List.drop_zero]
      refine quiet_of_run rfl (.pointer (some ⟨w.heap.size, 1, none⟩)) (fun w' _ => by kernel_rfl) ?_
      simp only [Act.put, List.setIfInBounds_toArray, List.set_cons_succ, List.set_cons_zero]
      refine quiet_of_run rfl (.pointer (some ⟨w.heap.size, 1, none⟩)) (fun w' _ => by kernel_rfl) ?_
      simp only [Act.put, List.setIfInBounds_toArray, List.set_cons_succ, List.set_cons_zero]
      refine quiet_load_blk rfl 3 _ rfl _ 1 _ _ _ (funext Tryd.isAgg3) rfl (fun w' h => h.1) rfl ?_
      simp only [Act.put, List.setIfInBounds_toArray, List.set_cons_succ, List.set_cons_zero]
      refine quiet_call rfl _ rfl 40 rfl (fun _ _ => by kernel_rfl) _ rfl (.string P0) (fun w' h => (p0.call w' h.2).mono fun e w2 ⟨h1, h2⟩ => ⟨h1, h.1.below h2 h.1.lt, keepW h2 h.2⟩) ?_
      simp only [Act.put, List.setIfInBounds_toArray, List.set_cons_succ, List.set_cons_zero]
      refine quiet_str_add rfl 9 9 _ _ rfl _ _ rfl rfl (by simp only [ByteArray.size_append, c45, c44]; omega) ?_
      simp only [Act.put, List.setIfInBounds_toArray, List.set_cons_succ, List.set_cons_zero]
      refine quiet_of_run rfl (.pointer (some ⟨w.heap.size, 1, none⟩)) (fun w' _ => by kernel_rfl) ?_
      simp only [Act.put, List.setIfInBounds_toArray, List.set_cons_succ, List.set_cons_zero]
      refine quiet_of_run rfl (.pointer (some ⟨w.heap.size, 2, none⟩)) (fun w' _ => by kernel_rfl) ?_
      simp only [Act.put, List.setIfInBounds_toArray, List.set_cons_succ, List.set_cons_zero]
      refine quiet_load_blk rfl 3 _ rfl _ 2 _ _ _ (funext Tryd.isAgg3) rfl (fun w' h => h.1) rfl ?_
      simp only [Act.put, List.setIfInBounds_toArray, List.set_cons_succ, List.set_cons_zero]
      refine quiet_call rfl _ rfl 40 rfl (fun _ _ => by kernel_rfl) _ rfl (.string P1) (fun w' h => (p1.call w' h.2).mono fun e w2 ⟨h1, h2⟩ => ⟨h1, h.1.below h2 h.1.lt, keepW h2 h.2⟩) ?_
      simp only [Act.put, List.setIfInBounds_toArray, List.set_cons_succ, List.set_cons_zero]
      refine quiet_str_add rfl 9 9 _ _ rfl _ _ rfl rfl (by simp only [ByteArray.size_append, c45, c44]; omega) ?_
      simp only [Act.put, List.setIfInBounds_toArray, List.set_cons_succ, List.set_cons_zero]
      refine quiet_str_add rfl 9 9 _ _ rfl _ _ rfl rfl (by simp only [ByteArray.size_append, c45, c44]; omega) ?_
      simp only [Act.put, List.setIfInBounds_toArray, List.set_cons_succ, List.set_cons_zero]
      refine quiet_of_run rfl (.pointer (some ⟨w.heap.size, 1, none⟩)) (fun w' _ => by kernel_rfl) ?_
      simp only [Act.put, List.setIfInBounds_toArray, List.set_cons_succ, List.set_cons_zero]
      refine quiet_of_run rfl (.pointer (some ⟨w.heap.size, 3, none⟩)) (fun w' _ => by kernel_rfl) ?_
      simp only [Act.put, List.setIfInBounds_toArray, List.set_cons_succ, List.set_cons_zero]
      refine quiet_load_blk rfl 3 _ rfl _ 3 _ _ _ (funext Tryd.isAgg3) rfl (fun w' h => h.1) rfl ?_
      simp only [Act.put, List.setIfInBounds_toArray, List.set_cons_succ, List.set_cons_zero]
      refine quiet_call rfl _ rfl 40 rfl (fun _ _ => by kernel_rfl) _ rfl (.string P2) (fun w' h => (p2.call w' h.2).mono fun e w2 ⟨h1, h2⟩ => ⟨h1, h.1.below h2 h.1.lt, keepW h2 h.2⟩) ?_
      simp only [Act.put, List.setIfInBounds_toArray, List.set_cons_succ, List.set_cons_zero]
      refine quiet_str_add rfl 9 9 _ _ rfl _ _ rfl rfl (by simp only [ByteArray.size_append, c45, c44]; omega) ?_
      simp only [Act.put, List.setIfInBounds_toArray, List.set_cons_succ, List.set_cons_zero]
      refine wpQuiet_nil ?_
      rintro w2 ⟨hBw2, hbw2⟩
      have c0 : w2.cell? ⟨w.heap.size, 0, none⟩ = some (.int .i64 3) := hBw2.at_ 0
      go_wp2_with fail
      refine wp_region_class_tail (fun w' => Blk w' w.heap.size 47 #[.int .i64 3, .int .i64 (y : Int), .int .i64 (mo : Int), .int .i64 (d : Int), .int .i64 (hh : Int), .int .i64 (mi : Int), .int .i64 (s : Int), .int .i64 (zh : Int), .int .i64 (zm : Int), .int .i64 (ns : Int), .int .u8 (z.toNat : Int)] ∧ Below w1.heap.size w1 w') 18 (by kernel_rfl) (by kernel_rfl) ⟨hBw2, Below.drew hbw2⟩ ?_
      simp only [List.take_succ_cons, List.take_zero, List.drop_succ_cons, List.drop_zero]
      go_big_quiet_step (fail)
      refine quiet_of_run rfl (.pointer (some ⟨w.heap.size, 1, none⟩)) (fun w' _ => by kernel_rfl) ?_
      simp only [Act.put, List.setIfInBounds_toArray, List.set_cons_succ, List.set_cons_zero]
      refine quiet_of_run rfl (.pointer (some ⟨w.heap.size, 4, none⟩)) (fun w' _ => by kernel_rfl) ?_
      simp only [Act.put, List.setIfInBounds_toArray, List.set_cons_succ, List.set_cons_zero]
      refine quiet_load_blk rfl 3 _ rfl _ 4 _ _ _ (funext Tryd.isAgg3) rfl (fun w' h => h.1) rfl ?_
      simp only [Act.put, List.setIfInBounds_toArray, List.set_cons_succ, List.set_cons_zero]
      refine quiet_call rfl _ rfl 40 rfl (fun _ _ => by kernel_rfl) _ rfl (.string P3) (fun w' h => (p3.call w' h.2).mono fun e w2 ⟨h1, h2⟩ => ⟨h1, h.1.below h2 h.1.lt, keepW h2 h.2⟩) ?_
      simp only [Act.put, List.setIfInBounds_toArray, List.set_cons_succ, List.set_cons_zero]
      refine quiet_str_add rfl 9 9 _ _ rfl _ _ rfl rfl (by simp only [ByteArray.size_append, c45, c44]; omega) ?_
      simp only [Act.put, List.setIfInBounds_toArray, List.set_cons_succ, List.set_cons_zero]
      refine quiet_of_run rfl (.pointer (some ⟨w.heap.size, 1, none⟩)) (fun w' _ => by kernel_rfl) ?_
      simp only [Act.put, List.setIfInBounds_toArray, List.set_cons_succ, List.set_cons_zero]
      refine quiet_of_run rfl (.pointer (some ⟨w.heap.size, 5, none⟩)) (fun w' _ => by kernel_rfl) ?_
      simp only [Act.put, List.setIfInBounds_toArray, List.set_cons_succ, List.set_cons_zero]
      refine quiet_load_blk rfl 3 _ rfl _ 5 _ _ _ (funext Tryd.isAgg3) rfl (fun w' h => h.1) rfl ?_
      simp only [Act.put, List.setIfInBounds_toArray, List.set_cons_succ, List.set_cons_zero]
      refine quiet_call rfl _ rfl 40 rfl (fun _ _ => by kernel_rfl) _ rfl (.string P4) (fun w' h => (p4.call w' h.2).mono fun e w2 ⟨h1, h2⟩ => ⟨h1, h.1.below h2 h.1.lt, keepW h2 h.2⟩) ?_
      simp only [Act.put, List.setIfInBounds_toArray, List.set_cons_succ, List.set_cons_zero]
      refine quiet_str_add rfl 9 9 _ _ rfl _ _ rfl rfl (by simp only [ByteArray.size_append, c45, c44]; omega) ?_
      simp only [Act.put, List.setIfInBounds_toArray, List.set_cons_succ, List.set_cons_zero]
      refine quiet_str_add rfl 9 9 _ _ rfl _ _ rfl rfl (by simp only [ByteArray.size_append, c45, c44]; omega) ?_
      simp only [Act.put, List.setIfInBounds_toArray, List.set_cons_succ, List.set_cons_zero]
      refine quiet_of_run rfl (.pointer (some ⟨w.heap.size, 1, none⟩)) (fun w' _ => by kernel_rfl) ?_
      simp only [Act.put, List.setIfInBounds_toArray, List.set_cons_succ, List.set_cons_zero]
      refine quiet_of_run rfl (.pointer (some ⟨w.heap.size, 6, none⟩)) (fun w' _ => by kernel_rfl) ?_
      simp only [Act.put, List.setIfInBounds_toArray, List.set_cons_succ, List.set_cons_zero]
      refine quiet_load_blk rfl 3 _ rfl _ 6 _ _ _ (funext Tryd.isAgg3) rfl (fun w' h => h.1) rfl ?_
      simp only [Act.put, List.setIfInBounds_toArray, List.set_cons_succ, List.set_cons_zero]
      refine quiet_call rfl _ rfl 40 rfl (fun _ _ => by kernel_rfl) _ rfl (.string P5) (fun w' h => (p5.call w' h.2).mono fun e w2 ⟨h1, h2⟩ => ⟨h1, h.1.below h2 h.1.lt, keepW h2 h.2⟩) ?_
      simp only [Act.put, List.setIfInBounds_toArray, List.set_cons_succ, List.set_cons_zero]
      refine quiet_str_add rfl 9 9 _ _ rfl _ _ rfl rfl (by simp only [ByteArray.size_append, c45, c44]; omega) ?_
      simp only [Act.put, List.setIfInBounds_toArray, List.set_cons_succ, List.set_cons_zero]
      refine quiet_str_add rfl 9 9 _ _ rfl _ _ rfl rfl (by simp only [ByteArray.size_append, c45, c44]; omega) ?_
      simp only [Act.put, List.setIfInBounds_toArray, List.set_cons_succ, List.set_cons_zero]
      refine wpQuiet_nil ?_
      rintro w3 ⟨hBw3, hbw3⟩
      have d9 : w3.cell? ⟨w.heap.size, 9, none⟩ = some (.int .i64 (ns : Int)) := hBw3.at_ 9
      by_cases hns : ns = 0
      · have hf : Ins.fracT ns = [] := by unfold Ins.fracT; rw [if_pos hns]
        clear hf
        subst hns
        go_wp2_with fail
        go_ret
        refine ⟨congrArg (fun x => Ending.returned (Value.string x)) (ba_of ?_), hb0.trans (hbw3.mono hb0.size)⟩
        simp only [app_lst, r0.out, r1.out, r2.out, r3.out, r4.out, r5.out]
        simp [Ins.dateT, Ins.hmsT, Ins.fracT]
      · have hf : Ins.fracT ns = 46 :: Ins.strip (Ins.pad 9 ns) := by unfold Ins.fracT; rw [if_neg hns]
        have HFr := Lib.hid hf
        have hp : 0 < (ns : Int) := by omega
        have ht := Tryd.strings_TrimRight_one P9 48 (by decide)
        have HT : Hid (∀ w5, Calls Tryd.prog 41 #[.string P9, .string ⟨#[48]⟩] w5 fun e w' => e = .returned (.string ⟨(Ins.strip (Ins.pad 9 ns)).toArray⟩) ∧ w5 = w') := Lib.hid (fun w5 => by rw [← r9.out]; exact (ht w5 (by omega)).mono fun e w' ⟨h1, h2⟩ => ⟨h1, h2.symm⟩)
        have hz : (⟨(Ins.strip (Ins.pad 9 ns)).toArray⟩ : ByteArray).size ≤ 9 := (Ins.strip_frac ns h7).2.1
        obtain ⟨F, hF⟩ : ∃ F : ByteArray, F = ⟨(Ins.strip (Ins.pad 9 ns)).toArray⟩ := ⟨_, rfl⟩
        have HF : Hid (F.data.toList = Ins.strip (Ins.pad 9 ns)) := Lib.hid (by rw [hF])
        rw [← hF] at HT hz
        clear hF hf ht hns
        go_wp2_with (first | (go_at_call 40; with_reducible refine (p9.call _ hbw3).mono ?_; rintro e w6 ⟨rfl, hb6⟩) | (go_at_call 41; with_reducible refine (HT.out _).mono ?_; rintro e w7 ⟨rfl, rfl⟩))
        go_ret
        refine ⟨congrArg (fun x => Ending.returned (Value.string x)) (ba_of ?_), hb0.trans ((keepW hb6 hbw3).mono hb0.size)⟩
        simp only [app_lst, HF.out, r0.out, r1.out, r2.out, r3.out, r4.out, r5.out]
        simp [Ins.dateT, Ins.hmsT, HFr.out]
    | false =>
      obtain rfl : sh = 1 := hsh
      simp only [if_true, Bool.and_false, Bool.false_eq_true, if_false]
      go_enter Tryd.func28, Tryd.ntmps28
      go_wp2_with fail
      rw [← HW1.out]
      clear HW1
      refine wp_region_class_tail (fun w' => Blk w' w.heap.size 47 #[.int .i64 1, .int .i64 (y : Int), .int .i64 (mo : Int), .int .i64 (d : Int), .int .i64 (hh : Int), .int .i64 (mi : Int), .int .i64 (s : Int), .int .i64 (zh : Int), .int .i64 (zm : Int), .int .i64 (ns : Int), .int .u8 (z.toNat : Int)] ∧ Below w1.heap.size w1 w') 16 (by kernel_rfl) (by kernel_rfl) ⟨hX, (Below.refl _ _).drew⟩ ?_
      simp only [List.take_succ_cons, List.take_zero, List.drop_succ_cons, List.drop_zero]
      refine quiet_of_run rfl (.pointer (some ⟨w.heap.size, 1, none⟩)) (fun w' _ => by kernel_rfl) ?_
      simp only [Act.put, List.setIfInBounds_toArray, List.set_cons_succ, List.set_cons_zero]
      refine quiet_of_run rfl (.pointer (some ⟨w.heap.size, 1, none⟩)) (fun w' _ => by kernel_rfl) ?_
      simp only [Act.put, List.setIfInBounds_toArray, List.set_cons_succ, List.set_cons_zero]
      refine quiet_load_blk rfl 3 _ rfl _ 1 _ _ _ (funext Tryd.isAgg3) rfl (fun w' h => h.1) rfl ?_
      simp only [Act.put, List.setIfInBounds_toArray, List.set_cons_succ, List.set_cons_zero]
      refine quiet_call rfl _ rfl 40 rfl (fun _ _ => by kernel_rfl) _ rfl (.string P0) (fun w' h => (p0.call w' h.2).mono fun e w2 ⟨h1, h2⟩ => ⟨h1, h.1.below h2 h.1.lt, keepW h2 h.2⟩) ?_
      simp only [Act.put, List.setIfInBounds_toArray, List.set_cons_succ, List.set_cons_zero]
      refine quiet_str_add rfl 9 9 _ _ rfl _ _ rfl rfl (by simp only [ByteArray.size_append, c45, c44]; omega) ?_
      simp only [Act.put, List.setIfInBounds_toArray, List.set_cons_succ, List.set_cons_zero]
      refine quiet_of_run rfl (.pointer (some ⟨w.heap.size, 1, none⟩)) (fun w' _ => by kernel_rfl) ?_
      simp only [Act.put, List.setIfInBounds_toArray, List.set_cons_succ, List.set_cons_zero]
      refine quiet_of_run rfl (.pointer (some ⟨w.heap.size, 2, none⟩)) (fun w' _ => by kernel_rfl) ?_
      simp only [Act.put, List.setIfInBounds_toArray, List.set_cons_succ, List.set_cons_zero]
      refine quiet_load_blk rfl 3 _ rfl _ 2 _ _ _ (funext Tryd.isAgg3) rfl (fun w' h => h.1) rfl ?_
      simp only [Act.put, List.setIfInBounds_toArray, List.set_cons_succ, List.set_cons_zero]
      refine quiet_call rfl _ rfl 40 rfl (fun _ _ => by kernel_rfl) _ rfl (.string P1) (fun w' h => (p1.call w' h.2).mono fun e w2 ⟨h1, h2⟩ => ⟨h1, h.1.below h2 h.1.lt, keepW h2 h.2⟩) ?_
      simp only [Act.put, List.setIfInBounds_toArray, List.set_cons_succ, List.set_cons_zero]
      refine quiet_str_add rfl 9 9 _ _ rfl _ _ rfl rfl (by simp only [ByteArray.size_append, c45, c44]; omega) ?_
      simp only [Act.put, List.setIfInBounds_toArray, List.set_cons_succ, List.set_cons_zero]
      refine quiet_str_add rfl 9 9 _ _ rfl _ _ rfl rfl (by simp only [ByteArray.size_append, c45, c44]; omega) ?_
      simp only [Act.put, List.setIfInBounds_toArray, List.set_cons_succ, List.set_cons_zero]
      refine quiet_of_run rfl (.pointer (some ⟨w.heap.size, 1, none⟩)) (fun w' _ => by kernel_rfl) ?_
      simp only [Act.put, List.setIfInBounds_toArray, List.set_cons_succ, List.set_cons_zero]
      refine quiet_of_run rfl (.pointer (some ⟨w.heap.size, 3, none⟩)) (fun w' _ => by kernel_rfl) ?_
      simp only [Act.put, List.setIfInBounds_toArray, List.set_cons_succ, List.set_cons_zero]
      refine quiet_load_blk rfl 3 _ rfl _ 3 _ _ _ (funext Tryd.isAgg3) rfl (fun w' h => h.1) rfl ?_
      simp only [Act.put, List.setIfInBounds_toArray, List.set_cons_succ, List.set_cons_zero]
      refine quiet_call rfl _ rfl 40 rfl (fun _ _ => by kernel_rfl) _ rfl (.string P2) (fun w' h => (p2.call w' h.2).mono fun e w2 ⟨h1, h2⟩ => ⟨h1, h.1.below h2 h.1.lt, keepW h2 h.2⟩) ?_
      simp only [Act.put, List.setIfInBounds_toArray, List.set_cons_succ, List.set_cons_zero]
      refine quiet_str_add rfl 9 9 _ _ rfl _ _ rfl rfl (by simp only [ByteArray.size_append, c45, c44]; omega) ?_
      simp only [Act.put, List.setIfInBounds_toArray, List.set_cons_succ, List.set_cons_zero]
      refine wpQuiet_nil ?_
      rintro w2 ⟨hBw2, hbw2⟩
      have c0 : w2.cell? ⟨w.heap.size, 0, none⟩ = some (.int .i64 1) := hBw2.at_ 0
      have d9 : w2.cell? ⟨w.heap.size, 9, none⟩ = some (.int .i64 (ns : Int)) := hBw2.at_ 9
      by_cases hns : ns = 0
      · have hf : Ins.fracT ns = [] := by unfold Ins.fracT; rw [if_pos hns]
        clear hf
        subst hns
        go_wp2_with fail
        go_ret
        refine ⟨congrArg (fun x => Ending.returned (Value.string x)) (ba_of ?_), hb0.trans (hbw2.mono hb0.size)⟩
        simp only [app_lst, r0.out, r1.out, r2.out]
        simp [Ins.dateT, Ins.hmsT, Ins.fracT]
      · have hf : Ins.fracT ns = 46 :: Ins.strip (Ins.pad 9 ns) := by unfold Ins.fracT; rw [if_neg hns]
        have HFr := Lib.hid hf
        have hp : 0 < (ns : Int) := by omega
        have ht := Tryd.strings_TrimRight_one P9 48 (by decide)
        have HT : Hid (∀ w5, Calls Tryd.prog 41 #[.string P9, .string ⟨#[48]⟩] w5 fun e w' => e = .returned (.string ⟨(Ins.strip (Ins.pad 9 ns)).toArray⟩) ∧ w5 = w') := Lib.hid (fun w5 => by rw [← r9.out]; exact (ht w5 (by omega)).mono fun e w' ⟨h1, h2⟩ => ⟨h1, h2.symm⟩)
        have hz : (⟨(Ins.strip (Ins.pad 9 ns)).toArray⟩ : ByteArray).size ≤ 9 := (Ins.strip_frac ns h7).2.1
        obtain ⟨F, hF⟩ : ∃ F : ByteArray, F = ⟨(Ins.strip (Ins.pad 9 ns)).toArray⟩ := ⟨_, rfl⟩
        have HF : Hid (F.data.toList = Ins.strip (Ins.pad 9 ns)) := Lib.hid (by rw [hF])
        rw [← hF] at HT hz
        clear hF hf ht hns
        go_wp2_with (first | (go_at_call 40; with_reducible refine (p9.call _ hbw2).mono ?_; rintro e w6 ⟨rfl, hb6⟩) | (go_at_call 41; with_reducible refine (HT.out _).mono ?_; rintro e w7 ⟨rfl, rfl⟩))
        go_ret
        refine ⟨congrArg (fun x => Ending.returned (Value.string x)) (ba_of ?_), hb0.trans ((keepW hb6 hbw2).mono hb0.size)⟩
        simp only [app_lst, HF.out, r0.out, r1.out, r2.out]
        simp [Ins.dateT, Ins.hmsT, HFr.out]
  | false =>
    obtain rfl : time = true := by rcases h8 with h8 | h8; cases h8; exact h8
    · obtain rfl : sh = 2 := hsh
      simp only [if_true, Bool.and_true, Bool.false_eq_true, if_false]
      go_enter Tryd.func28, Tryd.ntmps28
      go_wp2_with fail
      rw [← HW1.out]
      clear HW1
      refine wp_region_class_tail (fun w' => Blk w' w.heap.size 47 #[.int .i64 2, .int .i64 (y : Int), .int .i64 (mo : Int), .int .i64 (d : Int), .int .i64 (hh : Int), .int .i64 (mi : Int), .int .i64 (s : Int), .int .i64 (zh : Int), .int .i64 (zm : Int), .int .i64 (ns : Int), .int .u8 (z.toNat : Int)] ∧ Below w1.heap.size w1 w') 18 (by kernel_rfl) (by kernel_rfl) ⟨hX, (Below.refl _ _).drew⟩ ?_
      simp only [List.take_succ_cons, List.take_zero, List.drop_succ_cons, List.drop_zero]
      go_big_quiet_step (fail)
      refine quiet_of_run rfl (.pointer (some ⟨w.heap.size, 1, none⟩)) (fun w' _ => by kernel_rfl) ?_
      simp only [Act.put, List.setIfInBounds_toArray, List.set_cons_succ, List.set_cons_zero]
      refine quiet_of_run rfl (.pointer (some ⟨w.heap.size, 4, none⟩)) (fun w' _ => by kernel_rfl) ?_
      simp only [Act.put, List.setIfInBounds_toArray, List.set_cons_succ, List.set_cons_zero]
      refine quiet_load_blk rfl 3 _ rfl _ 4 _ _ _ (funext Tryd.isAgg3) rfl (fun w' h => h.1) rfl ?_
      simp only [Act.put, List.setIfInBounds_toArray, List.set_cons_succ, List.set_cons_zero]
      refine quiet_call rfl _ rfl 40 rfl (fun _ _ => by kernel_rfl) _ rfl (.string P3) (fun w' h => (p3.call w' h.2).mono fun e w2 ⟨h1, h2⟩ => ⟨h1, h.1.below h2 h.1.lt, keepW h2 h.2⟩) ?_
      simp only [Act.put, List.setIfInBounds_toArray, List.set_cons_succ, List.set_cons_zero]
      refine quiet_str_add rfl 9 9 _ _ rfl _ _ rfl rfl (by simp only [ByteArray.size_append, c45, c44]; omega) ?_
      simp only [Act.put, List.setIfInBounds_toArray, List.set_cons_succ, List.set_cons_zero]
      refine quiet_of_run rfl (.pointer (some ⟨w.heap.size, 1, none⟩)) (fun w' _ => by kernel_rfl) ?_
      simp only [Act.put, List.setIfInBounds_toArray, List.set_cons_succ, List.set_cons_zero]
      refine quiet_of_run rfl (.pointer (some ⟨w.heap.size, 5, none⟩)) (fun w' _ => by kernel_rfl) ?_
      simp only [Act.put, List.setIfInBounds_toArray, List.set_cons_succ, List.set_cons_zero]
      refine quiet_load_blk rfl 3 _ rfl _ 5 _ _ _ (funext Tryd.isAgg3) rfl (fun w' h => h.1) rfl ?_
      simp only [Act.put, List.setIfInBounds_toArray, List.set_cons_succ, List.set_cons_zero]
      refine quiet_call rfl _ rfl 40 rfl (fun _ _ => by kernel_rfl) _ rfl (.string P4) (fun w' h => (p4.call w' h.2).mono fun e w2 ⟨h1, h2⟩ => ⟨h1, h.1.below h2 h.1.lt, keepW h2 h.2⟩) ?_
      simp only [Act.put, List.setIfInBounds_toArray, List.set_cons_succ, List.set_cons_zero]
      refine quiet_str_add rfl 9 9 _ _ rfl _ _ rfl rfl (by simp only [ByteArray.size_append, c45, c44]; omega) ?_
      simp only [Act.put, List.setIfInBounds_toArray, List.set_cons_succ, List.set_cons_zero]
      refine quiet_str_add rfl 9 9 _ _ rfl _ _ rfl rfl (by simp only [ByteArray.size_append, c45, c44]; omega) ?_
      simp only [Act.put, List.setIfInBounds_toArray, List.set_cons_succ, List.set_cons_zero]
      refine quiet_of_run rfl (.pointer (some ⟨w.heap.size, 1, none⟩)) (fun w' _ => by kernel_rfl) ?_
      simp only [Act.put, List.setIfInBounds_toArray, List.set_cons_succ, List.set_cons_zero]
      refine quiet_of_run rfl (.pointer (some ⟨w.heap.size, 6, none⟩)) (fun w' _ => by kernel_rfl) ?_
      simp only [Act.put, List.setIfInBounds_toArray, List.set_cons_succ, List.set_cons_zero]
      refine quiet_load_blk rfl 3 _ rfl _ 6 _ _ _ (funext Tryd.isAgg3) rfl (fun w' h => h.1) rfl ?_
      simp only [Act.put, List.setIfInBounds_toArray, List.set_cons_succ, List.set_cons_zero]
      refine quiet_call rfl _ rfl 40 rfl (fun _ _ => by kernel_rfl) _ rfl (.string P5) (fun w' h => (p5.call w' h.2).mono fun e w2 ⟨h1, h2⟩ => ⟨h1, h.1.below h2 h.1.lt, keepW h2 h.2⟩) ?_
      simp only [Act.put, List.setIfInBounds_toArray, List.set_cons_succ, List.set_cons_zero]
      refine quiet_str_add rfl 9 9 _ _ rfl _ _ rfl rfl (by simp only [ByteArray.size_append, c45, c44]; omega) ?_
      simp only [Act.put, List.setIfInBounds_toArray, List.set_cons_succ, List.set_cons_zero]
      refine quiet_str_add rfl 9 9 _ _ rfl _ _ rfl rfl (by simp only [ByteArray.size_append, c45, c44]; omega) ?_
      simp only [Act.put, List.setIfInBounds_toArray, List.set_cons_succ, List.set_cons_zero]
      refine wpQuiet_nil ?_
      rintro w3 ⟨hBw3, hbw3⟩
      have d9 : w3.cell? ⟨w.heap.size, 9, none⟩ = some (.int .i64 (ns : Int)) := hBw3.at_ 9
      by_cases hns : ns = 0
      · have hf : Ins.fracT ns = [] := by unfold Ins.fracT; rw [if_pos hns]
        clear hf
        subst hns
        go_wp2_with fail
        go_ret
        refine ⟨congrArg (fun x => Ending.returned (Value.string x)) (ba_of ?_), hb0.trans (hbw3.mono hb0.size)⟩
        simp only [app_lst, r3.out, r4.out, r5.out]
        simp [Ins.dateT, Ins.hmsT, Ins.fracT]
      · have hf : Ins.fracT ns = 46 :: Ins.strip (Ins.pad 9 ns) := by unfold Ins.fracT; rw [if_neg hns]
        have HFr := Lib.hid hf
        have hp : 0 < (ns : Int) := by omega
        have ht := Tryd.strings_TrimRight_one P9 48 (by decide)
        have HT : Hid (∀ w5, Calls Tryd.prog 41 #[.string P9, .string ⟨#[48]⟩] w5 fun e w' => e = .returned (.string ⟨(Ins.strip (Ins.pad 9 ns)).toArray⟩) ∧ w5 = w') := Lib.hid (fun w5 => by rw [← r9.out]; exact (ht w5 (by omega)).mono fun e w' ⟨h1, h2⟩ => ⟨h1, h2.symm⟩)
        have hz : (⟨(Ins.strip (Ins.pad 9 ns)).toArray⟩ : ByteArray).size ≤ 9 := (Ins.strip_frac ns h7).2.1
        obtain ⟨F, hF⟩ : ∃ F : ByteArray, F = ⟨(Ins.strip (Ins.pad 9 ns)).toArray⟩ := ⟨_, rfl⟩
        have HF : Hid (F.data.toList = Ins.strip (Ins.pad 9 ns)) := Lib.hid (by rw [hF])
        rw [← hF] at HT hz
        clear hF hf ht hns
        go_wp2_with (first | (go_at_call 40; with_reducible refine (p9.call _ hbw3).mono ?_; rintro e w6 ⟨rfl, hb6⟩) | (go_at_call 41; with_reducible refine (HT.out _).mono ?_; rintro e w7 ⟨rfl, rfl⟩))
        go_ret
        refine ⟨congrArg (fun x => Ending.returned (Value.string x)) (ba_of ?_), hb0.trans ((keepW hb6 hbw3).mono hb0.size)⟩
        simp only [app_lst, HF.out, r3.out, r4.out, r5.out]
        simp [Ins.dateT, Ins.hmsT, HFr.out]
end Go.Proofs.YtbficmdjblimfaaDoor
