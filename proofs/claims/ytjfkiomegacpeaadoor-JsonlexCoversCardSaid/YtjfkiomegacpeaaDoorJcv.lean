/-
  JsonlexCovers: true at every source.
-/
import Derived.Test.YtjfkiomegacpeaaDoorJsV
namespace Go.Proofs.YtjfkiomegacpeaaDoor
open Go.RowKit
theorem white_cases (c : UInt8) (h : Jsn.white c = true) : c = 32 ∨ c = 9 ∨ c = 10 ∨ c = 13 := by
  simp only [Jsn.white, Bool.or_eq_true, beq_iff_eq] at h
  rcases h with ((h | h) | h) | h <;> simp [h]
theorem drop_some {α : Type} {l : List α} {i : Nat} {a : α} {r : List α} (h : l.drop i = a :: r) : l[i]? = some a ∧ l.drop (i + 1) = r ∧ i < l.length := by
  have hi : i < l.length := by
    apply Classical.byContradiction
    intro hn
    rw [List.drop_of_length_le (by omega)] at h
    simp at h
  rw [List.drop_eq_getElem_cons hi] at h
  injection h with h1 h2
  exact ⟨by rw [List.getElem?_eq_getElem hi, h1], h2, hi⟩
theorem drop_none {α : Type} {l : List α} {i : Nat} (h : l.drop i = []) : l.length ≤ i := by
  rw [List.drop_eq_nil_iff] at h; exact h
set_option maxRecDepth 100000 in
set_option maxHeartbeats 8000000 in
theorem jsonlexCovers_any (s : ByteArray) (w : World) (hE : EnvJ w) :
    Calls Tryd.prog 4 #[.string s] w fun e w' => e = .returned (.bool true) ∧ Below w.heap.size w w' := by
  have HW := Lib.hid (awake_any w hE)
  by_cases hs : s.size ≤ 2000
  · have HA := Lib.hid (fun w1 (hb : Below w.heap.size w w1) => scan_out s w1 (by omega) (hE.below hb))
    clear hE
    have hoa : (outOf s.data.toList).code = 0 → ∃ T N, Snd s.data.toList ∧ Jsn.scan s.data.toList = .ok T N ∧ outOf s.data.toList = ⟨T, N, 0, 0⟩ := outOf_ok
    have hbd := out_bd s.data.toList
    have hem := fun h => out_empty (l := s.data.toList) h
    rw [size_toList] at hbd
    obtain ⟨o, ho⟩ : ∃ o, o = outOf s.data.toList := ⟨_, rfl⟩
    rw [← ho] at HA hoa hbd hem
    clear ho
    obtain ⟨hb1, hb2, -⟩ := hbd
    by_cases hc : o.code = 0
    · obtain ⟨T, N, hsn, hsc, rfl⟩ := hoa hc
      have HCov := Lib.hid (Jsn.cov_start hsc)
      obtain ⟨n, hn⟩ : ∃ n, n = T.length := ⟨_, rfl⟩
      obtain ⟨m, hm⟩ : ∃ m, m = N.length := ⟨_, rfl⟩
      simp only at hb2
      have hb3 : n + m ≤ s.size := by omega
      clear hoa hem hc hb1 hb2 hsn hsc
      go_enter Tryd.func4, Tryd.ntmps4
      go_wp2_with fail
      refine HW.out.mono ?_
      rintro e w1 ⟨rfl, k1⟩
      go_wp2_with fail
      refine (HA.out w1 k1).mono ?_
      rintro e w3 ⟨⟨tv, nv, rfl, hot, hon⟩, k3⟩
      obtain ⟨ao, ac, rfl, hac, RA⟩ := row_at hot
      obtain ⟨xo, xc, rfl, hxc, RX⟩ := row_at hon
      have hw3 := k1.trans (k3.mono k1.size)
      simp only at RA RX hac hxc
      rw [← hn] at RA hac
      rw [← hm] at RX hxc
      simp only [← hn, ← hm]
      have HN := Lib.hid hn
      have HMn := Lib.hid hm
      clear hot hon k1 k3 HA HW hn hm
      go_wp2_with fail
      go_loopg [7, 8, 9] s.size (fun g iv kv pv wr => ∃ i k p : Nat, iv = .int .i64 i ∧ kv = .int .i64 k ∧ pv = .int .i64 p ∧ p + g = s.size ∧ i ≤ n ∧ k ≤ m ∧ Hid (Jsn.Cov s.data.toList p (T.drop i) (N.drop k)) ∧ Below w3.heap.size w3 wr)
      case atStart => exact ⟨0, 0, 0, rfl, rfl, rfl, by omega, by omega, by omega, HCov, Below.refl _ _⟩
      case round =>
        clear HCov
        obtain ⟨i, k, p, rfl, rfl, rfl, hg, hi, hk, HC, hbr⟩ := hrel
        by_cases hp : p < s.size
        · rcases Jsn.cov_round HC.out (by rw [size_toList]; exact hp) with ⟨hwh, hcv⟩ | ⟨q, t2, kd, x, hq1, hq2, ht, hcv⟩ | ⟨q, n2, hq1, hq2, hn2, hcv⟩
          · have hz : s.data.toList[p] = s[p] := rfl
            rw [hz] at hwh
            obtain ⟨hge1, hge2⟩ := Jsn.cov_ge hcv
            have hT1 : i < n → ∃ t, T[i]? = some t ∧ p < t.frm := fun h => by
              have e := List.drop_eq_getElem_cons (l := T) (i := i) (by rw [← HN.out]; exact h)
              exact ⟨_, List.getElem?_eq_getElem (by rw [← HN.out]; exact h), hge1 _ (by rw [e]; exact List.mem_cons_self)⟩
            have hN1 : k < m → ∃ t, N[k]? = some t ∧ p < t.frm := fun h => by
              have e := List.drop_eq_getElem_cons (l := N) (i := k) (by rw [← HMn.out]; exact h)
              exact ⟨_, List.getElem?_eq_getElem (by rw [← HMn.out]; exact h), hge2 _ (by rw [e]; exact List.mem_cons_self)⟩
            have HT1 := Lib.hid hT1
            have HN1 := Lib.hid hN1
            have HCv := Lib.hid hcv
            have HWh := Lib.hid hwh
            clear hcv hge1 hge2 hT1 hN1 hz hwh HC HN HMn
            go_upto_region 12 with fail
            go_cut [44] from 45 to 66 (fun b wx => b = .bool false ∧ Below w3.heap.size w3 wx)
            case first =>
              by_cases hin : i < n
              · obtain ⟨t, ht1, ht2⟩ := HT1.out hin
                obtain ⟨ga, rfl, ga0, a0, a1, a2, a3⟩ := (RA.keep hbr).tok i t hin ht1
                have f1 : ((t.frm : Int) == p) = false := by rw [beq_eq_false_iff_ne]; omega
                have f2 : (i : Int) < n := by omega
                clear ht1 RA RX HT1 HN1 HCv HWh a0 a3
                go_wp2_with fail
                go_meet
                case rel => exact ⟨rfl, hbr⟩
              · have f2 : ¬ (i : Int) < n := by omega
                clear RA RX HT1 HN1 HCv HWh
                go_wp2_with fail
                go_meet
                case rel => exact ⟨rfl, hbr⟩
            case rest =>
              obtain ⟨rfl, hbr2⟩ := hcut
              clear HT1 hbr
              go_upto_region 15 with fail
              go_cut [74] from 75 to 112 (fun b wx => b = .bool false ∧ Below w3.heap.size w3 wx)
              case first =>
                by_cases hin : k < m
                · obtain ⟨t, ht1, ht2⟩ := HN1.out hin
                  obtain ⟨ga, rfl, ga0, a0, a1, a2⟩ := (RX.keep hbr2).note k t hin ht1
                  have f1 : ((t.frm : Int) == p) = false := by rw [beq_eq_false_iff_ne]; omega
                  have f2 : (k : Int) < m := by omega
                  clear ht1 RA RX HN1 HCv HWh a2
                  go_quiet (fail)
                  go_wp2_with fail
                  go_meet
                  case rel => exact ⟨rfl, drewN_below hbr2 _⟩
                · have f2 : ¬ (k : Int) < m := by omega
                  clear RA RX HN1 HCv HWh
                  go_quiet (fail)
                  go_wp2_with fail
                  go_meet
                  case rel => exact ⟨rfl, drewN_below hbr2 _⟩
              case rest =>
                obtain ⟨rfl, hbr3⟩ := hcut
                clear HN1 hbr2
                go_upto_region 18 with fail
                go_cut [120] from 121 to 142 (fun b wx => b = .bool true ∧ wx = wc)
                case first =>
                  rcases white_cases _ HWh.out with h | h | h | h
                  all_goals
                    have c1 := congrArg (fun x : UInt8 => (x.toNat : Int)) h
                    clear h RA RX HCv HWh
                  · have c1 : (s[p].toNat : Int) = 32 := c1
                    go_wp2_with fail
                    go_meet
                    case rel => exact ⟨rfl, rfl⟩
                  · have c1 : (s[p].toNat : Int) = 9 := c1
                    go_wp2_with fail
                    go_meet
                    case rel => exact ⟨rfl, rfl⟩
                  · have c1 : (s[p].toNat : Int) = 10 := c1
                    go_wp2_with fail
                    go_meet
                    case rel => exact ⟨rfl, rfl⟩
                  · have c1 : (s[p].toNat : Int) = 13 := c1
                    go_wp2_with fail
                    go_meet
                    case rel => exact ⟨rfl, rfl⟩
                case rest =>
                  obtain ⟨rfl, rfl⟩ := hcut
                  clear HWh
                  go_wp2_with fail
                  go_roundg (s.size - (p + 1))
                  case measure => omega
                  case rel => exact ⟨i, k, p + 1, rfl, rfl, by go_num, by omega, hi, hk, HCv, hbr3⟩
          · obtain ⟨ht1, ht2, hin⟩ := drop_some ht
            rw [← HN.out] at hin
            obtain ⟨r, hr⟩ : ∃ r, r = p + q := ⟨_, rfl⟩
            rw [← hr] at ht1 hcv hq2
            rw [size_toList] at hq2
            have hpr : p < r := by omega
            rw [← ht2] at hcv
            have HCv := Lib.hid hcv
            obtain ⟨ga, rfl, ga0, a0, a1, a2, a3⟩ := (RA.keep hbr).tok i _ hin ht1
            have f2 : (i : Int) < n := by omega
            have f3 : (p : Int) < r := by omega
            simp only at a0 a1 a2 a3
            clear ht1 ht2 ht hcv hr HC HN HMn a0 a3 hq1
            go_upto_region 12 with fail
            go_cut [44] from 45 to 66 (fun b wx => b = .bool true ∧ wx = wr)
            case first =>
              clear RA RX HCv
              go_wp2_with fail
              go_meet
              case rel => exact ⟨rfl, rfl⟩
            case rest =>
              obtain ⟨rfl, rfl⟩ := hcut
              go_wp2_with fail
              go_roundg (s.size - r)
              case measure => omega
              case rel => exact ⟨i + 1, k, r, by go_num, rfl, rfl, by omega, by omega, hk, HCv, hbr⟩
          · obtain ⟨hn1, hn2', hkm⟩ := drop_some hn2
            rw [← HMn.out] at hkm
            obtain ⟨hge1, hge2⟩ := Jsn.cov_ge hcv
            have hT1 : i < n → ∃ t, T[i]? = some t ∧ p < t.frm := fun h => by
              have e := List.drop_eq_getElem_cons (l := T) (i := i) (by rw [← HN.out]; exact h)
              exact ⟨_, List.getElem?_eq_getElem (by rw [← HN.out]; exact h), by have := hge1 _ (by rw [e]; exact List.mem_cons_self); omega⟩
            obtain ⟨r, hr⟩ : ∃ r, r = p + q := ⟨_, rfl⟩
            have hx : (⟨((s.data.toList.drop p).take q).toArray⟩ : ByteArray) = s.extract p r := by
              rw [hr, ← ext_part]
            rw [← hr] at hn1 hcv hq2
            rw [size_toList] at hq2
            have hpr : p < r := by omega
            rw [← hn2'] at hcv
            have HCv := Lib.hid hcv
            have HT1 := Lib.hid hT1
            obtain ⟨gx, rfl, gx0, x0, x1, x2⟩ := (RX.keep hbr).note k _ hkm hn1
            simp only at x0 x1 x2
            rw [hx] at x2
            have f3 : (p : Int) < r := by omega
            clear hn1 hn2' hn2 hcv hr HC HN HMn hq1 hge1 hge2 hT1 hx
            go_upto_region 12 with fail
            go_cut [44] from 45 to 66 (fun b wx => b = .bool false ∧ wx = wr)
            case first =>
              by_cases hin : i < n
              · obtain ⟨t, ht1, ht2⟩ := HT1.out hin
                obtain ⟨ga, rfl, ga0, a0, a1, a2, a3⟩ := (RA.keep hbr).tok i t hin ht1
                have f1 : ((t.frm : Int) == p) = false := by rw [beq_eq_false_iff_ne]; omega
                have f2 : (i : Int) < n := by omega
                clear ht1 RA RX HT1 HCv a0 a3 x0 x1 x2
                go_wp2_with fail
                go_meet
                case rel => exact ⟨rfl, rfl⟩
              · have f2 : ¬ (i : Int) < n := by omega
                clear RA RX HT1 HCv x0 x1 x2
                go_wp2_with fail
                go_meet
                case rel => exact ⟨rfl, rfl⟩
            case rest =>
              obtain ⟨rfl, rfl⟩ := hcut
              clear HT1
              go_upto_region 15 with fail
              go_cut [74] from 75 to 112 (fun b wx => b = .bool true ∧ ∃ q, wx = wc.drewN q)
              case first =>
                have f2 : (k : Int) < m := by omega
                have f4 : (p : Int) ≤ r := by omega
                have f5 : (r : Int) ≤ s.size := by omega
                have f6 : 0 ≤ (r : Int) := by omega
                clear RA RX HCv
                go_quiet (fail)
                go_wp2_with fail
                go_meet
                case rel => exact ⟨rfl, _, rfl⟩
              case rest =>
                obtain ⟨rfl, q2, rfl⟩ := hcut
                have y1 : (wc.drewN q2).cell? ⟨gx, k * 3 + 1, none⟩ = some (.int .i64 (r : Int)) := x1
                have hb5 := drewN_below hbr q2
                generalize wc.drewN q2 = w5 at *
                clear x0 x1 x2
                go_wp2_with fail
                go_roundg (s.size - r)
                case measure => omega
                case rel => exact ⟨i, k + 1, r, rfl, by go_num, rfl, by omega, hi, by omega, HCv, hb5⟩
        · obtain ⟨hT, hN⟩ := Jsn.cov_end HC.out (by rw [size_toList]; omega)
          have hi2 := drop_none hT
          have hk2 := drop_none hN
          rw [← HN.out] at hi2
          rw [← HMn.out] at hk2
          obtain rfl : i = n := by omega
          obtain rfl : k = m := by omega
          clear HC hT hN hi2 hk2
          go_wp2_with fail
          go_ret
          exact ⟨rfl, hw3.trans (hbr.mono hw3.size)⟩
    · obtain ⟨e1, e2⟩ := hem hc
      obtain ⟨T, N, at_, code⟩ := o
      simp only at *
      subst e1 e2
      have hc1 : ((code : Int) != 0) = true := by rw [bne_iff_ne]; omega
      clear hc hoa hem hb2
      go_enter Tryd.func4, Tryd.ntmps4
      go_wp2_with fail
      refine HW.out.mono ?_
      rintro e w1 ⟨rfl, k1⟩
      go_wp2_with fail
      refine (HA.out w1 k1).mono ?_
      rintro e w3 ⟨⟨tv, nv, rfl, hot, hon⟩, k3⟩
      obtain ⟨ao, ac, rfl, hac, RA⟩ := row_at hot
      obtain ⟨xo, xc, rfl, hxc, RX⟩ := row_at hon
      have hw3 := k1.trans (k3.mono k1.size)
      simp only [List.length_nil] at *
      clear hot hon k1 k3 HA HW RA RX
      have f1 : 0 ≤ (at_ : Int) := by omega
      have f2 : (at_ : Int) ≤ s.size := by omega
      go_wp2_with fail
      go_ret
      exact ⟨rfl, hw3⟩
  · have h2 : 2000 < (s.size : Int) := by omega
    clear hs hE
    go_enter Tryd.func4, Tryd.ntmps4
    go_wp2_with fail
    refine HW.out.mono ?_
    rintro e w6 ⟨rfl, k6⟩
    go_wp2_with fail
    go_ret
    exact ⟨rfl, k6⟩
end Go.Proofs.YtjfkiomegacpeaaDoor
