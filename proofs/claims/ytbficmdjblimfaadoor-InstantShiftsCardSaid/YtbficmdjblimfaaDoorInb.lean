/-
  instant.Instant by its contract.
-/
import Derived.Test.YtbficmdjblimfaaDoorIna
namespace Go.Proofs.YtbficmdjblimfaaDoor
open Go.RowKit
theorem quiet_load_momA {ops : Array Oper} {C : World → Prop} {Q : Act → Prop} {rest : List Oper} {o : Oper} {a : Act} (hgd : o.guard = none) (x : Operand) (ho : o.op = .load 47 x) (g : Nat) (m : Ins.M) (hx : a.eval x = .pointer (some ⟨g, 0, none⟩))
    (hc : ∀ w, C w → Blk w g 47 (momA m)) (hk : wpQuiet Tryd.prog ops C Q rest (a.put o.dst (momV m))) : wpQuiet Tryd.prog ops C Q (o :: rest) a := by
  refine quiet_of_run hgd (momV m) (fun w hw => ?_) hk
  unfold execOp
  simp only [ho, hx, Instr.loadAt, Instr.sureAddr, Sem.run_bind, Sem.run_pure, Result.andThen_ok, run_loadVar_row w g _ _ _ (0, 0) _ (hc w hw) Tryd.underlying47 rfl momRow, momV_A]
theorem momA9 (m : Ins.M) : (momA m)[9]? = some (.int .i64 (m.ns : Int)) := rfl
theorem momA0 (m : Ins.M) : (momA m)[0]? = some (.int .i64 (shape m : Int)) := rfl
set_option maxRecDepth 100000 in
set_option maxHeartbeats 8000000 in
theorem instant_any (s : ByteArray) (w : World) (hs : s.size ≤ 1000000) (hE : EnvI w) :
    Calls Tryd.prog 11 #[.string s] w (RetR w (Ins.instant s.data.toList)) := by
  obtain ⟨R, hR⟩ : ∃ R, R = Ins.instant s.data.toList := ⟨_, rfl⟩
  rw [← hR]
  unfold Ins.instant at hR
  cases hm : Ins.read s.data.toList with
  | none =>
    rw [hm] at hR
    replace hR : R = .bad 3 := hR
    subst hR
    have HR := ird_none s hs hm
    unfold momC at HR
    clear hm hE
    go_enter Tryd.func11, Tryd.ntmps11
    go_wp2_with (go_at_call 24; with_reducible refine (HR.out _).mono ?_; rintro e w5 ⟨⟨sh, f, ns, z, rfl⟩, hb5⟩)
    go_ret2
    exact ⟨rfl, below_al hb5 _⟩
  | some m =>
    have hrd := Ins.read_rd hm
    rw [hm] at hR
    replace hR : R = if m.z = 0 then .bad 3 else if !m.ranges then .bad 13 else Ins.ofSeconds (m.secs - Ins.epoch) m.ns := hR
    have HR := ird_some s hs m hm
    clear hm
    have HI : Hid (∀ w1, Calls Tryd.prog 25 #[momV m] w1 fun e w' => e = .returned (.bool m.ranges) ∧ Below w1.heap.size w1 w') := Lib.hid (fun w1 => ranges_any m w1 hrd.y hrd.mo hrd.d hrd.some_)
    by_cases hz : m.z = 0
    · rw [if_pos hz] at hR
      subst hR
      have hzb := z_eq m hz
      unfold momV at HR
      clear hrd hz HI hE
      go_enter Tryd.func11, Tryd.ntmps11
      go_wp2_with (go_at_call 24; with_reducible refine (HR.out _).mono ?_; rintro e w5 ⟨rfl, hb5⟩)
      go_ret2
      exact ⟨rfl, below_al hb5 _⟩
    · rw [if_neg hz] at hR
      have hzb := z_ne m hz
      cases hb : m.ranges with
      | false =>
        rw [hb] at hR HI
        replace hR : R = .bad 13 := hR
        subst hR
        unfold momV at HR HI
        clear hrd hb hE hz
        go_enter Tryd.func11, Tryd.ntmps11
        go_wp2_with (first | (go_at_call 24; with_reducible refine (HR.out _).mono ?_; rintro e w5 ⟨rfl, hb5⟩) | (go_at_call 25; with_reducible refine (HI.out _).mono ?_; rintro e w6 ⟨rfl, hb6⟩))
        go_ret2
        exact ⟨rfl, below_al2 hb5 _ hb6⟩
      | true =>
        rw [hb] at hR HI
        replace hR : R = Ins.ofSeconds (m.secs - Ins.epoch) m.ns := hR
        have hbd := Ins.ranges_bd hb
        have hdt : m.date = true := by
          rcases hrd.z with h | h
          · exact absurd h.1 hz
          · exact h.2.1
        have HS : Hid (∀ w1, Calls Tryd.prog 26 #[momV m] w1 fun e w' => e = .returned (.int .i64 (m.secs - Ins.epoch)) ∧ Below w1.heap.size w1 w') := Lib.hid (fun w1 => seconds_any m w1 hrd.h hrd.mi hrd.s hrd.zh hrd.zm (hbd.1 hdt))
        have hns := hrd.ns
        have hsb : -1000000000000 ≤ m.secs - Ins.epoch ∧ m.secs - Ins.epoch ≤ 1000000000000 := by
          have h1 := Ins.days_lt _ _ _ (hbd.1 hdt)
          have h2 := hrd.zh
          have h3 := hrd.zm
          unfold Ins.M.secs Ins.epoch
          split <;> omega
        obtain ⟨N, hN⟩ : ∃ N, N = m.secs - Ins.epoch := ⟨_, rfl⟩
        rw [← hN] at hR HS hsb
        have HO : Hid (∀ w1, Below w.heap.size w w1 → Calls Tryd.prog 19 #[.int .i64 N, .int .i64 (m.ns : Int)] w1 fun e w' => e = .returned (.tuple #[.string (resV R).1, .int .i64 (resV R).2]) ∧ Below w1.heap.size w1 w') := Lib.hid (fun w1 hb1 => by
          have h := ofSeconds_any N (m.ns : Int) w1 (by omega) (by omega) (by omega) (by omega) (hE.below hb1)
          rw [← hR] at h
          exact h)
        unfold RetR
        generalize (resV R).1 = TX at *
        generalize (resV R).2 = EX at *
        unfold momV at HR HI
        clear hrd hb hE hz hR hbd hdt hN hsb
        go_enter Tryd.func11, Tryd.ntmps11
        go_wp2_with (first | (go_at_call 24; with_reducible refine (HR.out _).mono ?_; rintro e w5 ⟨rfl, hb5⟩) | (go_at_call 25; with_reducible refine (HI.out _).mono ?_; rintro e w6 ⟨rfl, hb6⟩; have x6 : Blk w6 w5.heap.size 47 (momA m) := (Blk.new w5 _ (momA m)).below hb6 (Blk.new w5 _ _).lt; have hb7 := below_al2 hb5 _ hb6))
        refine wp_region_class_tail (fun w' => Blk w' w5.heap.size 47 (momA m) ∧ Below w.heap.size w w') 7 (by kernel_rfl) (by kernel_rfl) ⟨x6, Below.drew hb7⟩ ?_
        simp only [List.take_succ_cons, List.take_zero, List.drop_succ_cons, List.drop_zero]
        refine quiet_load_momA rfl _ rfl w5.heap.size m rfl (fun w' h => h.1) ?_
        simp only [Act.put, List.setIfInBounds_toArray, List.set_cons_succ, List.set_cons_zero]
        refine quiet_call rfl _ rfl 26 rfl (fun _ _ => by kernel_rfl) _ rfl (.int .i64 N) (fun w' h => (HS.out w').mono fun e w2 ⟨h1, h2⟩ => ⟨h1, h.1.below h2 h.1.lt, below_tr h.2 h2⟩) ?_
        simp only [Act.put, List.setIfInBounds_toArray, List.set_cons_succ, List.set_cons_zero]
        refine quiet_of_run rfl (.pointer (some ⟨w5.heap.size, 9, none⟩)) (fun w' _ => by kernel_rfl) ?_
        simp only [Act.put, List.setIfInBounds_toArray, List.set_cons_succ, List.set_cons_zero]
        refine quiet_load_blk rfl 3 _ rfl _ 9 _ _ _ (funext Tryd.isAgg3) rfl (fun w' h => h.1) (momA9 m) ?_
        simp only [Act.put, List.setIfInBounds_toArray, List.set_cons_succ, List.set_cons_zero]
        refine quiet_call rfl _ rfl 19 rfl (fun _ _ => by kernel_rfl) _ rfl (.tuple #[.string TX, .int .i64 EX]) (fun w' h => (HO.out w' h.2).mono fun e w2 ⟨h1, h2⟩ => ⟨h1, h.1.below h2 h.1.lt, below_tr h.2 h2⟩) ?_
        simp only [Act.put, List.setIfInBounds_toArray, List.set_cons_succ, List.set_cons_zero]
        refine quiet_of_run rfl (.string TX) (fun w' _ => by kernel_rfl) ?_
        simp only [Act.put, List.setIfInBounds_toArray, List.set_cons_succ, List.set_cons_zero]
        refine quiet_of_run rfl (.int .i64 EX) (fun w' _ => by kernel_rfl) ?_
        simp only [Act.put, List.setIfInBounds_toArray, List.set_cons_succ, List.set_cons_zero]
        refine wpQuiet_nil ?_
        rintro w2 ⟨hBw2, hbw2⟩
        clear HR HI HS HO
        go_wp2_with fail
        go_ret2
        exact ⟨rfl, hbw2⟩
end Go.Proofs.YtbficmdjblimfaaDoor
