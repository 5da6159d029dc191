/-
  instant.Cmp and the reference's Canon by their contracts.
-/
import Derived.Test.YtbficmdjblimfaaDoorInc
namespace Go.Proofs.YtbficmdjblimfaaDoor
open Go.RowKit
def cmpI : Option (Int × Nat) → Option (Int × Nat) → Int
  | some (x, m), some (y, n) => if x < y ∨ x = y ∧ m < n then -1 else if y < x ∨ n < m then 1 else 0
  | _, _ => 0
theorem secs_bd {L : List UInt8} {N : Int} {m : Nat} (h : secsOf L = some (N, m)) : -62167219200 ≤ N ∧ N < 253402300800 ∧ m ≤ 999999999 := by
  unfold secsOf canonOf at h
  split at h
  · rename_i t ht
    by_cases hl : t = L
    · rw [if_pos hl] at h
      subst hl
      obtain ⟨m2, hm, _, _, k, h1, h2, h3, _⟩ := canon_ok ht
      rw [hm] at h
      cases h
      unfold Ins.epoch
      unfold Ins.top at h1
      omega
    · rw [if_neg hl] at h; cases h
  · cases h
set_option maxRecDepth 100000 in
set_option maxHeartbeats 8000000 in
theorem cmp_any (a b : ByteArray) (w : World) (ha : a.size ≤ 1000000) (hb : b.size ≤ 1000000) (hE : EnvI w) :
    Calls Tryd.prog 23 #[.string a, .string b] w fun e w' => e = .returned (.int .i64 (cmpI (secsOf a.data.toList) (secsOf b.data.toList))) ∧ Below w.heap.size w w' := by
  have HA : Hid (∀ w1, EnvI w1 → Calls Tryd.prog 17 #[.string a] w1 (RetS3 w1 (secsOf a.data.toList))) := Lib.hid (fun w1 hE1 => iseconds_any a w1 ha hE1)
  have HB : Hid (∀ w1, EnvI w1 → Calls Tryd.prog 17 #[.string b] w1 (RetS3 w1 (secsOf b.data.toList))) := Lib.hid (fun w1 hE1 => iseconds_any b w1 hb hE1)
  have sa := @secs_bd a.data.toList
  have sb := @secs_bd b.data.toList
  generalize secsOf a.data.toList = A at *
  generalize secsOf b.data.toList = B at *
  unfold RetS3 at HA HB
  have HE := Lib.hid hE
  clear hE
  cases A with
  | none =>
    have HA2 : Hid (∀ w1, EnvI w1 → Calls Tryd.prog 17 #[.string a] w1 fun e w' => e = .returned (.tuple #[.int .i64 0, .int .i64 0, .int .i64 3]) ∧ Below w1.heap.size w1 w') := HA
    cases B with
    | none =>
      have HB2 : Hid (∀ w1, EnvI w1 → Calls Tryd.prog 17 #[.string b] w1 fun e w' => e = .returned (.tuple #[.int .i64 0, .int .i64 0, .int .i64 3]) ∧ Below w1.heap.size w1 w') := HB
      clear HA HB sa sb
      go_enter Tryd.func23, Tryd.ntmps23
      go_wp2_with (first | (go_at_call 17; with_reducible refine (HA2.out _ HE.out).mono ?_; rintro e w5 ⟨rfl, hb5⟩) | (go_at_call 17; with_reducible refine (HB2.out _ (HE.out.below hb5)).mono ?_; rintro e w6 ⟨rfl, hb6⟩))
      go_ret
      exact ⟨rfl, below_tr hb5 hb6⟩
    | some q =>
      obtain ⟨y, n⟩ := q
      have HB2 : Hid (∀ w1, EnvI w1 → Calls Tryd.prog 17 #[.string b] w1 fun e w' => e = .returned (.tuple #[.int .i64 y, .int .i64 (n : Int), .int .i64 0]) ∧ Below w1.heap.size w1 w') := HB
      clear HA HB sa sb
      go_enter Tryd.func23, Tryd.ntmps23
      go_wp2_with (first | (go_at_call 17; with_reducible refine (HA2.out _ HE.out).mono ?_; rintro e w5 ⟨rfl, hb5⟩) | (go_at_call 17; with_reducible refine (HB2.out _ (HE.out.below hb5)).mono ?_; rintro e w6 ⟨rfl, hb6⟩))
      go_ret
      exact ⟨rfl, below_tr hb5 hb6⟩
  | some p =>
    obtain ⟨x, m⟩ := p
    have HA2 : Hid (∀ w1, EnvI w1 → Calls Tryd.prog 17 #[.string a] w1 fun e w' => e = .returned (.tuple #[.int .i64 x, .int .i64 (m : Int), .int .i64 0]) ∧ Below w1.heap.size w1 w') := HA
    cases B with
    | none =>
      have HB2 : Hid (∀ w1, EnvI w1 → Calls Tryd.prog 17 #[.string b] w1 fun e w' => e = .returned (.tuple #[.int .i64 0, .int .i64 0, .int .i64 3]) ∧ Below w1.heap.size w1 w') := HB
      clear HA HB sa sb
      go_enter Tryd.func23, Tryd.ntmps23
      go_wp2_with (first | (go_at_call 17; with_reducible refine (HA2.out _ HE.out).mono ?_; rintro e w5 ⟨rfl, hb5⟩) | (go_at_call 17; with_reducible refine (HB2.out _ (HE.out.below hb5)).mono ?_; rintro e w6 ⟨rfl, hb6⟩))
      go_ret
      exact ⟨rfl, below_tr hb5 hb6⟩
    | some q =>
      obtain ⟨y, n⟩ := q
      have HB2 : Hid (∀ w1, EnvI w1 → Calls Tryd.prog 17 #[.string b] w1 fun e w' => e = .returned (.tuple #[.int .i64 y, .int .i64 (n : Int), .int .i64 0]) ∧ Below w1.heap.size w1 w') := HB
      obtain ⟨sa1, sa2, sa3⟩ := sa rfl
      obtain ⟨sb1, sb2, sb3⟩ := sb rfl
      obtain ⟨V, hV⟩ : ∃ V, V = cmpI (some (x, m)) (some (y, n)) := ⟨_, rfl⟩
      rw [← hV]
      replace hV : V = if x < y ∨ x = y ∧ m < n then -1 else if y < x ∨ n < m then 1 else 0 := hV
      clear HA HB
      by_cases c1 : x < y
      · rw [if_pos (.inl c1)] at hV
        subst hV
        go_enter Tryd.func23, Tryd.ntmps23
        go_wp2_with (first | (go_at_call 17; with_reducible refine (HA2.out _ HE.out).mono ?_; rintro e w5 ⟨rfl, hb5⟩) | (go_at_call 17; with_reducible refine (HB2.out _ (HE.out.below hb5)).mono ?_; rintro e w6 ⟨rfl, hb6⟩))
        go_ret
        exact ⟨rfl, below_tr hb5 hb6⟩
      · by_cases c2 : x = y
        · subst c2
          by_cases c3 : m < n
          · rw [if_pos (.inr ⟨rfl, c3⟩)] at hV
            subst hV
            have d1 : (m : Int) < (n : Int) := by omega
            go_enter Tryd.func23, Tryd.ntmps23
            go_wp2_with (first | (go_at_call 17; with_reducible refine (HA2.out _ HE.out).mono ?_; rintro e w5 ⟨rfl, hb5⟩) | (go_at_call 17; with_reducible refine (HB2.out _ (HE.out.below hb5)).mono ?_; rintro e w6 ⟨rfl, hb6⟩))
            go_ret
            exact ⟨rfl, below_tr hb5 hb6⟩
          · rw [if_neg (by omega)] at hV
            have d1 : ¬ (m : Int) < (n : Int) := by omega
            by_cases c4 : n < m
            · rw [if_pos (.inr c4)] at hV
              subst hV
              have d2 : (n : Int) < (m : Int) := by omega
              go_enter Tryd.func23, Tryd.ntmps23
              go_wp2_with (first | (go_at_call 17; with_reducible refine (HA2.out _ HE.out).mono ?_; rintro e w5 ⟨rfl, hb5⟩) | (go_at_call 17; with_reducible refine (HB2.out _ (HE.out.below hb5)).mono ?_; rintro e w6 ⟨rfl, hb6⟩))
              go_ret
              exact ⟨rfl, below_tr hb5 hb6⟩
            · rw [if_neg (by omega)] at hV
              subst hV
              have d2 : ¬ (n : Int) < (m : Int) := by omega
              go_enter Tryd.func23, Tryd.ntmps23
              go_wp2_with (first | (go_at_call 17; with_reducible refine (HA2.out _ HE.out).mono ?_; rintro e w5 ⟨rfl, hb5⟩) | (go_at_call 17; with_reducible refine (HB2.out _ (HE.out.below hb5)).mono ?_; rintro e w6 ⟨rfl, hb6⟩))
              go_ret
              exact ⟨rfl, below_tr hb5 hb6⟩
        · rw [if_neg (by omega), if_pos (.inl (by omega))] at hV
          subst hV
          have c3 : y < x := by omega
          have c4 : (x == y) = false := by rw [beq_eq_false_iff_ne]; exact c2
          go_enter Tryd.func23, Tryd.ntmps23
          go_wp2_with (first | (go_at_call 17; with_reducible refine (HA2.out _ HE.out).mono ?_; rintro e w5 ⟨rfl, hb5⟩) | (go_at_call 17; with_reducible refine (HB2.out _ (HE.out.below hb5)).mono ?_; rintro e w6 ⟨rfl, hb6⟩))
          go_ret
          exact ⟨rfl, below_tr hb5 hb6⟩
def RetCn (w : World) (r : Option Ins.M) (e : Go.Ending) (w' : World) : Prop :=
  (match r with
    | some m => e = .returned (.tuple #[tV m, .bool true])
    | none => e = .returned (.tuple #[.agg tZ, .bool false])) ∧ Below w.heap.size w w'
set_option maxRecDepth 100000 in
set_option maxHeartbeats 8000000 in
theorem canon_any (s : ByteArray) (w : World) (hs : s.size ≤ 1000000) :
    Calls Tryd.prog 18 #[.string s] w (RetCn w (canonOf s.data.toList)) := by
  have HL : Hid (∀ w1, Calls Tryd.prog 12 #[.string s] w1 (RetR w1 (Ins.instant s.data.toList))) := Lib.hid (fun w1 => rinstant_any s w1 hs)
  unfold RetR at HL
  obtain ⟨V, hV⟩ : ∃ V, V = canonOf s.data.toList := ⟨_, rfl⟩
  rw [← hV]
  unfold canonOf at hV
  cases hl : Ins.instant s.data.toList with
  | bad c =>
    rw [hl] at hV HL
    replace hV : V = none := hV
    subst hV
    have hc := instant_bad hl
    have hc1 : ((c : Int) == 0) = false := by rw [beq_eq_false_iff_ne]; omega
    have HL2 : Hid (∀ w1, Calls Tryd.prog 12 #[.string s] w1 fun e w' => e = .returned (.tuple #[.string ⟨#[]⟩, .int .i64 (c : Int)]) ∧ Below w1.heap.size w1 w') := HL
    clear hl HL
    go_enter Tryd.func18, Tryd.ntmps18
    go_wp2_with (first | (go_at_call 12; refine (HL2.out _).mono ?_; rintro e w5 ⟨rfl, hb5⟩; have r5 : Blk w5 w.heap.size 30 tZ := (Blk.new w _ tZ).below hb5 (Blk.new w _ tZ).lt; have b5 := below_al2 (Below.refl _ _) _ hb5) | ((with_reducible refine wpList_store_T rfl _ _ rfl rfl w.heap.size tZ rfl false false false 0 0 0 0 0 0 0 0 false ?_ ?_ r5 ?_); exact rfl; exact rfl))
    exact ret_TB rfl rfl rfl rfl rfl (r5.row _) ⟨rfl, setRow_below b5 (Nat.le_refl _) _⟩
  | ok t =>
    rw [hl] at hV HL
    replace hV : V = if t = s.data.toList then Ins.read s.data.toList else none := hV
    by_cases ht : t = s.data.toList
    · subst ht
      rw [if_pos rfl] at hV
      obtain ⟨m, hm, hz, hr, k, h1, h2, h3, hrd, hd⟩ := canon_ok hl
      rw [hm] at hV
      subst hV
      have HR := rd_some s hs m hm
      have HL2 : Hid (∀ w1, Calls Tryd.prog 12 #[.string s] w1 fun e w' => e = .returned (.tuple #[.string s, .int .i64 0]) ∧ Below w1.heap.size w1 w') := HL
      have hss := str_self s
      have HV : Hid (tV m = .agg (tC m.date m.time (m.z != 0) m.y m.mo m.d m.h m.mi m.s m.ns (off m) (late m))) := Lib.hid rfl
      rw [HV.out] at HR
      clear hl HL hm hz hr h1 h2 h3 hrd hd
      go_enter Tryd.func18, Tryd.ntmps18
      go_wp2_with (first | (go_at_call 12; refine (HL2.out _).mono ?_; rintro e w5 ⟨rfl, hb5⟩; have r5 : Blk w5 w.heap.size 30 tZ := (Blk.new w _ tZ).below hb5 (Blk.new w _ tZ).lt; have b5 := below_al2 (Below.refl _ _) _ hb5) | (go_at_call 15; refine (HR.out _).mono ?_; rintro e w6 ⟨rfl, hb6⟩; have r6 : Blk (w6.alloc (.cells (tC m.date m.time (m.z != 0) m.y m.mo m.d m.h m.mi m.s m.ns (off m) (late m)) 30)) w.heap.size 30 tZ := (r5.below hb6 r5.lt).alloc _; have x6 : Blk (w6.alloc (.cells (tC m.date m.time (m.z != 0) m.y m.mo m.d m.h m.mi m.s m.ns (off m) (late m)) 30)) w6.heap.size 30 (tC m.date m.time (m.z != 0) m.y m.mo m.d m.h m.mi m.s m.ns (off m) (late m)) := Blk.new _ _ _; have b6 := below_al (below_tr b5 hb6) (.cells (tC m.date m.time (m.z != 0) m.y m.mo m.d m.h m.mi m.s m.ns (off m) (late m)) 30)) | ((with_reducible refine wpList_load_T rfl _ rfl w6.heap.size _ rfl ?_ x6 ?_); exact rfl) | ((with_reducible refine wpList_store_T rfl _ _ rfl rfl w.heap.size tZ rfl m.date m.time (m.z != 0) m.y m.mo m.d m.h m.mi m.s m.ns (off m) (late m) ?_ ?_ r6 ?_); exact rfl; exact rfl))
      exact ret_TB rfl rfl rfl rfl rfl (r6.row _) ⟨congrArg (fun v => Go.Ending.returned (.tuple #[v, .bool true])) HV.out.symm, setRow_below b6 (Nat.le_refl _) _⟩
    · rw [if_neg ht] at hV
      subst hV
      have hne := str_ne (str_nof ht)
      have HL2 : Hid (∀ w1, Calls Tryd.prog 12 #[.string s] w1 fun e w' => e = .returned (.tuple #[.string ⟨t.toArray⟩, .int .i64 0]) ∧ Below w1.heap.size w1 w') := HL
      generalize (⟨t.toArray⟩ : ByteArray) = TX at *
      clear hl HL ht
      go_enter Tryd.func18, Tryd.ntmps18
      go_wp2_with (first | (go_at_call 12; refine (HL2.out _).mono ?_; rintro e w5 ⟨rfl, hb5⟩; have r5 : Blk w5 w.heap.size 30 tZ := (Blk.new w _ tZ).below hb5 (Blk.new w _ tZ).lt; have b5 := below_al2 (Below.refl _ _) _ hb5) | ((with_reducible refine wpList_store_T rfl _ _ rfl rfl w.heap.size tZ rfl false false false 0 0 0 0 0 0 0 0 false ?_ ?_ r5 ?_); exact rfl; exact rfl))
      exact ret_TB rfl rfl rfl rfl rfl (r5.row _) ⟨rfl, setRow_below b5 (Nat.le_refl _) _⟩
end Go.Proofs.YtbficmdjblimfaaDoor
