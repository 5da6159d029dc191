/-
  instant.Shape, instant.Seconds and the reference's Canon by their contracts.
-/
import Derived.Test.YtbficmdjblimfaaDoorInb
namespace Go.Proofs.YtbficmdjblimfaaDoor
open Go.RowKit
theorem local_bad {L : List UInt8} {e : Nat} (h : Ins.localOf L = .bad e) : 1 ≤ e := by
  unfold Ins.localOf at h
  split at h
  · cases h; decide
  · split at h
    · cases h; decide
    · split at h
      · cases h; decide
      · cases h
theorem instant_bad {L : List UInt8} {e : Nat} (h : Ins.instant L = .bad e) : 1 ≤ e := by
  unfold Ins.instant at h
  split at h
  · cases h; decide
  · split at h
    · cases h; decide
    · split at h
      · cases h; decide
      · unfold Ins.ofSeconds at h
        split at h
        · cases h; decide
        · split at h
          · cases h; decide
          · cases h
/-- The fields of a canonical moment's text. -/
def canonOf (L : List UInt8) : Option Ins.M := match Ins.instant L with
  | .ok t => if t = L then Ins.read L else none
  | .bad _ => none
def secsOf (L : List UInt8) : Option (Int × Nat) := (canonOf L).map fun m => (m.secs - Ins.epoch, m.ns)
def shapeOf (L : List UInt8) : Nat := match Ins.localOf L with
  | .ok t => if t = L then (match Ins.read L with | some m => shape m | none => 0) else 0
  | .bad _ => 0
theorem str_of {s : ByteArray} {t : List UInt8} (h : t = s.data.toList) : (⟨t.toArray⟩ : ByteArray) = s := by subst h; rfl
theorem str_nof {s : ByteArray} {t : List UInt8} (h : t ≠ s.data.toList) : (⟨t.toArray⟩ : ByteArray) ≠ s := fun h2 => h (by rw [← h2])
theorem str_self (s : ByteArray) : (s.toList == s.toList) = true := beq_self_eq_true _
set_option maxRecDepth 100000 in
set_option maxHeartbeats 8000000 in
theorem shape_any (s : ByteArray) (w : World) (hs : s.size ≤ 1000000) (hE : EnvI w) :
    Calls Tryd.prog 16 #[.string s] w fun e w' => e = .returned (.int .i64 (shapeOf s.data.toList : Int)) ∧ Below w.heap.size w w' := by
  have HL : Hid (∀ w1, EnvI w1 → Calls Tryd.prog 13 #[.string s] w1 (RetR w1 (Ins.localOf s.data.toList))) := Lib.hid (fun w1 hE1 => local_any s w1 hs hE1)
  unfold RetR at HL
  obtain ⟨V, hV⟩ : ∃ V, V = shapeOf s.data.toList := ⟨_, rfl⟩
  rw [← hV]
  unfold shapeOf at hV
  have HE := Lib.hid hE
  cases hl : Ins.localOf s.data.toList with
  | bad c =>
    rw [hl] at hV HL
    replace hV : V = 0 := hV
    subst hV
    have hc := local_bad hl
    have hc1 : ((c : Int) == 0) = false := by rw [beq_eq_false_iff_ne]; omega
    have HL2 : Hid (∀ w1, EnvI w1 → Calls Tryd.prog 13 #[.string s] w1 fun e w' => e = .returned (.tuple #[.string ⟨#[]⟩, .int .i64 (c : Int)]) ∧ Below w1.heap.size w1 w') := HL
    clear hl HL hE
    go_enter Tryd.func16, Tryd.ntmps16
    go_wp2_with (go_at_call 13; refine (HL2.out _ HE.out).mono ?_; rintro e w5 ⟨rfl, hb5⟩)
    go_ret
    exact ⟨rfl, hb5⟩
  | ok t =>
    rw [hl] at hV HL
    replace hV : V = if t = s.data.toList then (match Ins.read s.data.toList with | some m => shape m | none => 0) else 0 := hV
    by_cases ht : t = s.data.toList
    · rw [if_pos ht] at hV
      subst ht
      obtain ⟨m, hm, hz, hr, h4, h5, h6⟩ := Ins.local_ok hl
      rw [hm] at hV
      replace hV : V = shape m := hV
      have HR := ird_some s hs m hm
      have HL2 : Hid (∀ w1, EnvI w1 → Calls Tryd.prog 13 #[.string s] w1 fun e w' => e = .returned (.tuple #[.string s, .int .i64 0]) ∧ Below w1.heap.size w1 w') := HL
      have hss := str_self s
      unfold momV at HR
      rw [← hV] at HR
      clear hl HL hm hz hr h4 h5 h6 hE hV
      go_enter Tryd.func16, Tryd.ntmps16
      go_wp2_with (first | (go_at_call 13; refine (HL2.out _ HE.out).mono ?_; rintro e w5 ⟨rfl, hb5⟩) | (go_at_call 24; with_reducible refine (HR.out _).mono ?_; rintro e w6 ⟨rfl, hb6⟩))
      go_ret
      exact ⟨rfl, below_al (below_tr hb5 hb6) _⟩
    · rw [if_neg ht] at hV
      subst hV
      have hne := str_ne (str_nof ht)
      have HL2 : Hid (∀ w1, EnvI w1 → Calls Tryd.prog 13 #[.string s] w1 fun e w' => e = .returned (.tuple #[.string ⟨t.toArray⟩, .int .i64 0]) ∧ Below w1.heap.size w1 w') := HL
      generalize (⟨t.toArray⟩ : ByteArray) = TX at *
      clear hl HL hE ht
      go_enter Tryd.func16, Tryd.ntmps16
      go_wp2_with (first | (go_at_call 13; refine (HL2.out _ HE.out).mono ?_; rintro e w5 ⟨rfl, hb5⟩))
      go_ret
      exact ⟨rfl, hb5⟩
def RetS3 (w : World) (r : Option (Int × Nat)) (e : Go.Ending) (w' : World) : Prop :=
  (match r with
    | some p => e = .returned (.tuple #[.int .i64 p.1, .int .i64 (p.2 : Int), .int .i64 0])
    | none => e = .returned (.tuple #[.int .i64 0, .int .i64 0, .int .i64 3])) ∧ Below w.heap.size w w'
theorem canon_ok {L : List UInt8} (h : Ins.instant L = .ok L) : ∃ m, Ins.read L = some m ∧ m.z ≠ 0 ∧ m.ranges = true ∧ ∃ k : Nat, k < Ins.top ∧ m.secs = k ∧ m.ns ≤ 999999999 ∧ m.rd ∧ Ins.dateOk m.y m.mo m.d := by
  obtain ⟨k, j, m, h1, h2, h3, h4, h5, h6, h7, h8⟩ := Ins.instant_ok h
  have hrd := Ins.read_rd h3
  refine ⟨m, h3, h4, h5, k, h1, h6, hrd.ns, hrd, (Ins.ranges_bd h5).1 ?_⟩
  rcases hrd.z with h | h
  · exact absurd h.1 h4
  · exact h.2.1
set_option maxRecDepth 100000 in
set_option maxHeartbeats 8000000 in
theorem iseconds_any (s : ByteArray) (w : World) (hs : s.size ≤ 1000000) (hE : EnvI w) :
    Calls Tryd.prog 17 #[.string s] w (RetS3 w (secsOf s.data.toList)) := by
  have HL : Hid (∀ w1, EnvI w1 → Calls Tryd.prog 11 #[.string s] w1 (RetR w1 (Ins.instant s.data.toList))) := Lib.hid (fun w1 hE1 => instant_any s w1 hs hE1)
  unfold RetR at HL
  obtain ⟨V, hV⟩ : ∃ V, V = secsOf s.data.toList := ⟨_, rfl⟩
  rw [← hV]
  unfold secsOf canonOf at hV
  have HE := Lib.hid hE
  cases hl : Ins.instant s.data.toList with
  | bad c =>
    rw [hl] at hV HL
    replace hV : V = none := hV
    subst hV
    have hc := instant_bad hl
    have hc1 : ((c : Int) == 0) = false := by rw [beq_eq_false_iff_ne]; omega
    have HL2 : Hid (∀ w1, EnvI w1 → Calls Tryd.prog 11 #[.string s] w1 fun e w' => e = .returned (.tuple #[.string ⟨#[]⟩, .int .i64 (c : Int)]) ∧ Below w1.heap.size w1 w') := HL
    clear hl HL hE
    go_enter Tryd.func17, Tryd.ntmps17
    go_wp2_with (go_at_call 11; refine (HL2.out _ HE.out).mono ?_; rintro e w5 ⟨rfl, hb5⟩)
    go_ret3
    exact ⟨rfl, hb5⟩
  | ok t =>
    rw [hl] at hV HL
    by_cases ht : t = s.data.toList
    · subst ht
      obtain ⟨m, hm, hz, hr, k, h1, h2, h3, hrd, hd⟩ := canon_ok hl
      replace hV : V = some (m.secs - Ins.epoch, m.ns) := by
        rw [hV]
        simp only [if_true]
        rw [hm]
        rfl
      subst hV
      have HR := ird_some s hs m hm
      have HL2 : Hid (∀ w1, EnvI w1 → Calls Tryd.prog 11 #[.string s] w1 fun e w' => e = .returned (.tuple #[.string s, .int .i64 0]) ∧ Below w1.heap.size w1 w') := HL
      have HS : Hid (∀ w1, Calls Tryd.prog 26 #[momV m] w1 fun e w' => e = .returned (.int .i64 (m.secs - Ins.epoch)) ∧ Below w1.heap.size w1 w') := Lib.hid (fun w1 => seconds_any m w1 hrd.h hrd.mi hrd.s hrd.zh hrd.zm hd)
      generalize m.secs - Ins.epoch = N at *
      have hss := str_self s
      unfold momV at HR
      clear hl HL hm hz hr h1 h2 h3 hrd hd hE
      go_enter Tryd.func17, Tryd.ntmps17
      go_wp2_with (first | (go_at_call 11; refine (HL2.out _ HE.out).mono ?_; rintro e w5 ⟨rfl, hb5⟩) | (go_at_call 24; with_reducible refine (HR.out _).mono ?_; rintro e w6 ⟨rfl, hb6⟩))
      have x6 : Blk (w6.alloc (.cells (momA m) 47)) w6.heap.size 47 (momA m) := Blk.new w6 _ (momA m)
      have b6 : Below w.heap.size w (w6.alloc (.cells (momA m) 47)) := below_al (below_tr hb5 hb6) _
      refine wp_region_class_tail (fun w' => Blk w' w6.heap.size 47 (momA m) ∧ Below w.heap.size w w') 6 (by kernel_rfl) (by kernel_rfl) ⟨x6, Below.drew b6⟩ ?_
      simp only [List.take_succ_cons, List.take_zero, List.drop_succ_cons, List.drop_zero]
      refine quiet_load_momA rfl _ rfl w6.heap.size m rfl (fun w' h => h.1) ?_
      simp only [Act.put, List.setIfInBounds_toArray, List.set_cons_succ, List.set_cons_zero]
      refine quiet_call rfl _ rfl 26 rfl (fun _ _ => by kernel_rfl) _ rfl (.int .i64 N) (fun w' h => (HS.out w').mono fun e w2 ⟨h1, h2⟩ => ⟨h1, h.1.below h2 h.1.lt, below_tr h.2 h2⟩) ?_
      simp only [Act.put, List.setIfInBounds_toArray, List.set_cons_succ, List.set_cons_zero]
      refine quiet_of_run rfl (.pointer (some ⟨w6.heap.size, 9, none⟩)) (fun w' _ => by kernel_rfl) ?_
      simp only [Act.put, List.setIfInBounds_toArray, List.set_cons_succ, List.set_cons_zero]
      refine quiet_load_blk rfl 3 _ rfl _ 9 _ _ _ (funext Tryd.isAgg3) rfl (fun w' h => h.1) (momA9 m) ?_
      simp only [Act.put, List.setIfInBounds_toArray, List.set_cons_succ, List.set_cons_zero]
      refine quiet_of_run rfl (.int .i64 N) (fun w' _ => by kernel_rfl) ?_
      simp only [Act.put, List.setIfInBounds_toArray, List.set_cons_succ, List.set_cons_zero]
      refine quiet_of_run rfl (.int .i64 (m.ns : Int)) (fun w' _ => by kernel_rfl) ?_
      simp only [Act.put, List.setIfInBounds_toArray, List.set_cons_succ, List.set_cons_zero]
      refine wpQuiet_nil ?_
      rintro w2 ⟨hBw2, hbw2⟩
      clear HR HL2 HS HE
      go_wp2_with fail
      go_ret3
      exact ⟨rfl, hbw2⟩
    · replace hV : V = none := by
        rw [hV]
        simp only
        rw [if_neg ht]
        rfl
      subst hV
      have hne := str_ne (str_nof ht)
      have HL2 : Hid (∀ w1, EnvI w1 → Calls Tryd.prog 11 #[.string s] w1 fun e w' => e = .returned (.tuple #[.string ⟨t.toArray⟩, .int .i64 0]) ∧ Below w1.heap.size w1 w') := HL
      generalize (⟨t.toArray⟩ : ByteArray) = TX at *
      clear hl HL hE ht
      go_enter Tryd.func17, Tryd.ntmps17
      go_wp2_with (first | (go_at_call 11; refine (HL2.out _ HE.out).mono ?_; rintro e w5 ⟨rfl, hb5⟩))
      go_ret3
      exact ⟨rfl, hb5⟩
end Go.Proofs.YtbficmdjblimfaaDoor
