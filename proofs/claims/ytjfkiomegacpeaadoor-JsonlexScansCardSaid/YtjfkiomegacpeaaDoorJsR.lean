/-
  jsonlex.quoted by its contract.
-/
import Derived.Test.YtjfkiomegacpeaaDoorJsQ
import Derived.Test.YtjfkiomegacpeaaDoorJsE
import Derived.Deep.LoopGhost
import Derived.Lib.OthersKept
namespace Go.Proofs.YtjfkiomegacpeaaDoor
open Go.RowKit
theorem drop_ascii (l : List UInt8) (p n : Nat) (hn : Jsn.ascii ((l.drop p).take n)) (j : Nat) (h1 : p ≤ j) (h2 : j < p + n) (c : UInt8) (hc : l[j]? = some c) : c.toNat < 128 := by
  refine hn c ?_
  have : ((l.drop p).take n)[j - p]? = some c := by
    rw [List.getElem?_take, if_pos (by omega), List.getElem?_drop, show p + (j - p) = j by omega]
    exact hc
  exact List.mem_of_getElem? this
set_option maxRecDepth 100000 in
set_option maxHeartbeats 8000000 in
theorem quoted_any (s : ByteArray) (w : World) (h1 : 1 ≤ s.size) (hs : s.size ≤ 1099511627) (h34 : s[0] = 34) (hS : Snd s.data.toList) :
    Calls Tryd.prog 31 #[.string s] w (RetU w (Jsn.quo s.size 1 [] (s.data.toList.drop 1))) := by
  obtain ⟨C, hC⟩ : ∃ C, C = Jsn.quo s.size 1 [] (s.data.toList.drop 1) := ⟨_, rfl⟩
  rw [← hC]
  have HC0 := Lib.hid hC
  have HA0 : Hid (∀ j c, 0 ≤ j → j < 1 → s.data.toList[j]? = some c → c.toNat < 128) := Lib.hid (fun j c _ h hc => by
    obtain rfl : j = 0 := by omega
    rw [List.getElem?_eq_getElem (by rw [size_toList]; exact h1)] at hc
    simp only [Option.some.injEq] at hc
    rw [← hc]
    have : s.data.toList[0]'(by rw [size_toList]; exact h1) = s[0] := rfl
    rw [this, h34]; decide)
  have HS0 : Hid (Snd (s.data.toList.drop 0)) := Lib.hid (by rw [List.drop_zero]; exact hS)
  clear hC h34 hS
  go_enter Tryd.func31, Tryd.ntmps31
  go_wp2_with fail
  have hB0 := Bld.fresh w
  go_loopg [6] s.size (fun g nv wr => ∃ (p nx : Nat) (out : List UInt8), p + g = s.size ∧ nv = .int .i64 nx ∧ p ≤ nx ∧ nx ≤ s.size ∧ out.length ≤ nx ∧ wr.heap[w.heap.size + 1]? = some (.stringIter s p) ∧ Bld wr w.heap.size w.heap.size out ∧ Below w.heap.size w wr ∧ Hid (∀ j c, p ≤ j → j < nx → s.data.toList[j]? = some c → c.toNat < 128) ∧ Hid (Snd (s.data.toList.drop p)) ∧ Hid (C = Jsn.quo s.size nx out (s.data.toList.drop nx)))
  case atStart =>
    refine ⟨0, 1, [], by omega, rfl, by omega, by omega, by simp, ?_, ?_, ?_, HA0, HS0, HC0⟩
    · have := World.iter_heap (w.alloc (.cells #[.pointer none, .slice none 0 0] 77)) s 0
      simpa using this
    · exact hB0.keep (below_alloc _)
    · exact (below_alloc _).alloc (below_alloc _).size _
  case round =>
    clear HC0 HA0 HS0 hB0
    obtain ⟨p, nx, out, hg, rfl, hpn, hns, hol, hit, hB, hbr, HA, HSn, HC⟩ := hrel
    have hsz : w.heap.size + 1 < wr.heap.size := (Array.getElem?_eq_some_iff.1 hit).1
    by_cases hlt : p < s.size
    · have hd := drop_at s p hlt
      have hgp : s.data.toList[p]? = some s[p] := by rw [List.getElem?_eq_getElem (by rw [size_toList]; exact hlt)]; rfl
      by_cases hskip : p < nx
      · have hasc := HA.out p s[p] (Nat.le_refl _) hskip hgp
        have hdec := decode_ascii s p hlt hasc
        have hnx : ∀ ty, (Instr.next (.pointer (some ⟨w.heap.size + 1, 0, none⟩)) true ty).run Tryd.prog wr = _ := fun ty => Lib.run_next_any_at wr (w.heap.size + 1) s p ty hit hlt
        rw [hdec] at hnx
        have hS2 := HSn.out
        rw [hd, snd_ascii _ hasc] at hS2
        have HS2 := Lib.hid hS2
        have hB2 := hB.iterAt hit (p + 1)
        have hit2 := Lib.iterAt_heap wr (w.heap.size + 1) s p (p + 1) hit
        have hbr2 := Lib.below_iterAt hbr (k := w.heap.size + 1) (by omega) s (p + 1)
        have hl : (p : Int) < (nx : Int) := by omega
        clear hS2 hd hgp hasc hdec hit
        go_wp2_with fail
        go_roundg (s.size - (p + 1))
        case measure => omega
        case rel => exact ⟨p + 1, nx, out, by omega, rfl, by omega, by omega, hol, hit2, hB2, hbr2, Lib.hid (fun j c a b => HA.out j c (by omega) b), HS2, HC⟩
      · obtain rfl : p = nx := by omega
        have hne : s.data.toList.drop p ≠ [] := by rw [hd]; simp
        have hsd := (snd_cons _ hne).1 HSn.out
        have hrl := rune_len _ hne hsd.1
        have hwd := decodeL_wid _ hne
        have hsc := rune_scal (s.data.toList.drop p)
        have hq := HC.out
        have hlen : (s[p] :: s.data.toList.drop (p + 1)).length ≤ s.size := by rw [← hd, List.length_drop, size_toList]; omega
        have hbase : ∀ ty, (Instr.next (.pointer (some ⟨w.heap.size + 1, 0, none⟩)) true ty).run Tryd.prog wr = _ := fun ty => Lib.run_next_any_at wr (w.heap.size + 1) s p ty hit hlt
        have hnp : ¬ ((p : Int) < (p : Int)) := by omega
        have hRL := fun r w => Tryd.utf8_RuneLen r w
        rw [← Lib.decodeL_drop] at hbase
        have one : ∀ c : UInt8, s[p] = c → c.toNat < 128 → Lib.decodeL (s.data.toList.drop p) = (c.toNat, 1) := fun c hc h => by rw [hd, hc]; exact decodeL_one c h _
        rw [List.length_drop, size_toList] at hwd
        by_cases e34 : s[p] = 34
        · have hD := one 34 e34 (by decide)
          rw [hD] at hrl hbase
          rw [hd, Jsn.quo_step _ _ _ _ _ hlen, e34] at hq
          have HQ : Hid (C = .ok out (p + 1)) := Lib.hid hq
          have hRL := fun w => hRL 34 w
          rw [show Lib.runeLen 34 = 1 from rfl] at hRL
          have HRL := Lib.hid hRL
          have hnx : ∀ ty, (Instr.next (.pointer (some ⟨w.heap.size + 1, 0, none⟩)) true ty).run Tryd.prog wr = .ok (.tuple #[.bool true, .int .i64 p, .int .i32 34]) (wr.iterAt (w.heap.size + 1) s (p + 1)) := hbase
          have hB2 := hB.iterAt hit (p + 1)
          have hbr2 := Lib.below_iterAt hbr (k := w.heap.size + 1) (by omega) s (p + 1)
          generalize wr.iterAt (w.heap.size + 1) s (p + 1) = wr2 at *
          clear hRL hbase hq HC hD hrl hsc hsd hne hd hgp one e34 hlen HA HSn hit hB hwd
          go_wp2_with fail
          refine (HRL.out _).mono ?_
          rintro e w3 ⟨rfl, rfl⟩
          go_wp2_with fail
          refine (string_any w.heap.size w.heap.size out _ hB2 hbr2.size).mono ?_
          rintro e w4 ⟨rfl, hb4⟩
          go_wp2_with fail
          refine bodyPost_ret (v := .tuple #[.string ⟨out.toArray⟩, .int .i64 ((p : Int) + 1), .int .i64 0]) (by simp [results, Tryd.results31, go_sem]) rfl ?_
          rw [HQ.out]
          exact RetU.okI (by omega) (hbr2.trans hb4)
        · by_cases e32 : s[p] < 32
          · have h32 : s[p].toNat < 32 := by rw [UInt8.lt_iff_toNat_lt] at e32; exact e32
            have hD := one s[p] rfl (by omega)
            rw [hD] at hrl hbase
            rw [hd, Jsn.quo_step _ _ _ _ _ hlen, beq_eq_false_iff_ne.2 e34, if_pos e32] at hq
            have HQ : Hid (C = .bad 4 p) := Lib.hid hq
            have hRL := fun w => hRL (s[p].toNat : Int) w
            rw [hrl] at hRL
            have HRL : Hid (∀ w : World, Calls Tryd.prog 47 #[.int .i32 (s[p].toNat : Int)] w fun e w' => e = .returned (.int .i64 1) ∧ w' = w) := Lib.hid hRL
            have hnx : ∀ ty, (Instr.next (.pointer (some ⟨w.heap.size + 1, 0, none⟩)) true ty).run Tryd.prog wr = .ok (.tuple #[.bool true, .int .i64 p, .int .i32 (s[p].toNat : Int)]) (wr.iterAt (w.heap.size + 1) s (p + 1)) := hbase
            have n34 : ((s[p].toNat : Int) == 34) = false := byte_ne 34 e34
            have n32 : ((s[p].toNat : Int) < 32) := by omega
            have hbr2 := Lib.below_iterAt hbr (k := w.heap.size + 1) (by omega) s (p + 1)
            generalize wr.iterAt (w.heap.size + 1) s (p + 1) = wr2 at *
            generalize (s[p].toNat : Int) = cv at *
            clear hRL hbase hq HC hD hrl hsc hsd hne hd hgp one e34 hlen HA HSn hit hB hwd e32 h32
            go_wp2_with fail
            refine (HRL.out _).mono ?_
            rintro e w3 ⟨rfl, rfl⟩
            go_wp2_with fail
            refine bodyPost_ret (v := .tuple #[.string ⟨#[]⟩, .int .i64 (p : Int), .int .i64 4]) (by simp [results, Tryd.results31, go_sem]) rfl ?_
            rw [HQ.out]
            exact RetU.badI rfl rfl hbr2
          · by_cases e92 : s[p] = 92
            · have hD := one 92 e92 (by decide)
              rw [hD] at hrl hbase hsd
              have hhead : (s.data.toList.drop p).headD 0 = 92 := by rw [head_at s p hlt, e92]
              have heb := Jsn.escape_bd (s.data.toList.drop p) hhead
              have hcode := Jsn.escape_code (s.data.toList.drop p)
              have hES := fun w => jescape_any (s.extract p s.size) w (by rw [ext_size]; omega)
              rw [Lib.extract_to_end] at hES
              rw [hd, Jsn.quo_step _ _ _ _ _ hlen, ← hd, e92] at hq
              have hq : C = match Jsn.escape (s.data.toList.drop p) with
                | .ok x n => Jsn.quo s.size (p + n) (out ++ Jsn.enc x) ((s.data.toList.drop p).drop n)
                | .bad e => .bad e p := hq
              have hRL := fun w => hRL 92 w
              rw [show Lib.runeLen 92 = 1 from rfl] at hRL
              have HRL := Lib.hid hRL
              have hnx : ∀ ty, (Instr.next (.pointer (some ⟨w.heap.size + 1, 0, none⟩)) true ty).run Tryd.prog wr = .ok (.tuple #[.bool true, .int .i64 p, .int .i32 92]) (wr.iterAt (w.heap.size + 1) s (p + 1)) := hbase
              have hB2 := hB.iterAt hit (p + 1)
              have hit2 := Lib.iterAt_heap wr (w.heap.size + 1) s p (p + 1) hit
              have hbr2 := Lib.below_iterAt hbr (k := w.heap.size + 1) (by omega) s (p + 1)
              have HS2 := Lib.hid hsd.2
              have HAS := Lib.hid (fun n hn => drop_ascii s.data.toList p n hn)
              rw [List.drop_drop] at HS2
              generalize Jsn.escape (s.data.toList.drop p) = eo at *
              generalize wr.iterAt (w.heap.size + 1) s (p + 1) = wr2 at *
              clear hRL hbase HC hD hrl hsc hsd hne hd hgp one e34 hlen HA HSn hit hB hwd e32 hhead e92
              cases eo with
              | bad ec =>
                have HQ : Hid (C = .bad ec p) := Lib.hid hq
                have HES : Hid (∀ w : World, Calls Tryd.prog 49 #[.string (s.extract p s.size)] w fun e w' => e = .returned (.tuple #[.int .i32 0, .int .i64 0, .int .i64 (ec : Int)]) ∧ Below w.heap.size w w') := Lib.hid hES
                have hec := hcode ec rfl
                have hec0 : ((ec : Int) != 0) = true := by rw [bne_iff_ne]; omega
                clear hq hES heb hcode hec
                go_wp2_with fail
                refine (HRL.out _).mono ?_
                rintro e w3 ⟨rfl, rfl⟩
                go_wp2_with fail
                refine (HES.out _).mono ?_
                rintro e w4 ⟨rfl, hb4⟩
                go_wp2_with fail
                refine bodyPost_ret (v := .tuple #[.string ⟨#[]⟩, .int .i64 (p : Int), .int .i64 (ec : Int)]) (by simp [results, Tryd.results31, go_sem]) rfl ?_
                rw [HQ.out]
                exact RetU.badI rfl rfl (hbr2.trans (hb4.mono hbr2.size))
              | ok x n =>
                obtain ⟨b1, b2, b3, b4, b5, b6⟩ := heb x n rfl
                rw [List.length_drop, size_toList] at b2
                simp only at hq
                rw [List.drop_drop] at hq
                have HQ := Lib.hid hq
                have HES : Hid (∀ w : World, Calls Tryd.prog 49 #[.string (s.extract p s.size)] w fun e w' => e = .returned (.tuple #[.int .i32 (x : Int), .int .i64 (n : Int), .int .i64 0]) ∧ Below w.heap.size w w') := Lib.hid hES
                have HA2 : Hid (∀ j c, p + 1 ≤ j → j < p + n → s.data.toList[j]? = some c → c.toNat < 128) := Lib.hid (fun j c a b hc => HAS.out n b3 j (by omega) b c hc)
                have HLn : Hid ((out ++ Jsn.enc x).length ≤ p + n) := Lib.hid (by rw [List.length_append]; omega)
                clear hq hES hcode b3 b4 HAS
                go_wp2_with fail
                refine (HRL.out _).mono ?_
                rintro e w3 ⟨rfl, rfl⟩
                go_wp2_with fail
                refine (HES.out _).mono ?_
                rintro e w4 ⟨rfl, hb4⟩
                have hB4 := hB2.keep hb4
                have hit4 : w4.heap[w.heap.size + 1]? = some (.stringIter s (p + 1)) := by rw [hb4.block _ (Array.getElem?_eq_some_iff.1 hit2).1]; exact hit2
                have hbr4 := hbr2.trans (hb4.mono hbr2.size)
                clear hit2 hB2 hb4
                go_wp2_with fail
                refine (writeRune_any w.heap.size w.heap.size out x b6 b5 _ hB4 (by omega) hbr4.size).mono ?_
                rintro e w5 ⟨⟨nr, rfl⟩, hB5, hb5, ik5⟩
                go_wp2_with fail
                go_roundg (s.size - (p + 1))
                case measure => omega
                case rel => exact ⟨p + 1, p + n, _, by omega, by go_num, by omega, by omega, HLn.out, ik5 _ _ _ hit4, hB5.bld, hbr4.trans hb5, HA2, HS2, HQ⟩
            · have hqr := quo_rune s.size p out s[p] (s.data.toList.drop (p + 1)) hlen (by rw [← hd]; exact hsd.1) e34 e32 e92
              rw [← hd] at hqr
              obtain ⟨q1, q2, q3, q4⟩ := hqr
              have hq2 := hq.trans q1
              have hle := rune_enc _ hne hsd.1
              rw [List.drop_drop] at hq2
              have HS2 := Lib.hid hsd.2
              rw [List.drop_drop] at HS2
              have hbase2 : ∀ ty, (Instr.next (.pointer (some ⟨w.heap.size + 1, 0, none⟩)) true ty).run Tryd.prog wr = .ok (.tuple #[.bool true, .int .i64 p, .int .i32 (Lib.decodeL (s.data.toList.drop p)).1]) (wr.iterAt (w.heap.size + 1) s (p + (Lib.decodeL (s.data.toList.drop p)).2)) := hbase
              have hel : (Jsn.enc (Lib.decodeL (s.data.toList.drop p)).1).length ≤ (Lib.decodeL (s.data.toList.drop p)).2 := by rw [hle, List.length_take]; omega
              clear hbase hle q1 hq HC HSn hne hd hgp one e34 e32 e92 hlen HA
              generalize Lib.decodeL (s.data.toList.drop p) = RK at *
              obtain ⟨R, K⟩ := RK
              simp only at *
              have HRL : Hid (∀ w : World, Calls Tryd.prog 47 #[.int .i32 (R : Int)] w fun e w' => e = .returned (.int .i64 (K : Int)) ∧ w' = w) := Lib.hid (fun w => by have := hRL (R : Int) w; rwa [hrl] at this)
              have HQ := Lib.hid hq2
              have n34 : ((R : Int) == 34) = false := by rw [beq_eq_false_iff_ne]; omega
              have n32 : ¬ ((R : Int) < 32) := by omega
              have n92 : ((R : Int) == 92) = false := by rw [beq_eq_false_iff_ne]; omega
              have hB2 := hB.iterAt hit (p + K)
              have hit2 := Lib.iterAt_heap wr (w.heap.size + 1) s p (p + K) hit
              have hbr2 := Lib.below_iterAt hbr (k := w.heap.size + 1) (by omega) s (p + K)
              have HLn : Hid ((out ++ Jsn.enc R).length ≤ p + K) := Lib.hid (by rw [List.length_append]; omega)
              generalize wr.iterAt (w.heap.size + 1) s (p + K) = wr2 at *
              clear hRL hq2 hrl hsd hit hB hel
              go_wp2_with fail
              refine (HRL.out _).mono ?_
              rintro e w3 ⟨rfl, rfl⟩
              go_wp2_with fail
              refine (writeRune_any w.heap.size w.heap.size out R hsc.1 hsc.2 _ hB2 (by omega) hbr2.size).mono ?_
              rintro e w5 ⟨⟨nr, rfl⟩, hB5, hb5, ik5⟩
              go_wp2_with fail
              go_roundg (s.size - (p + K))
              case measure => omega
              case rel => exact ⟨p + K, p + K, _, by omega, by go_num, by omega, by omega, HLn.out, ik5 _ _ _ hit2, hB5.bld, hbr2.trans hb5, Lib.hid (fun j c a b => by omega), HS2, HQ⟩
    · have hS2 : C = .bad 4 0 := HC.out.trans (by
        rw [List.drop_of_length_le (by rw [size_toList]; omega)]
        cases s.size <;> rfl)
      have HQ := Lib.hid hS2
      have hnx : ∀ ty, (Instr.next (.pointer (some ⟨w.heap.size + 1, 0, none⟩)) true ty).run Tryd.prog wr = _ := fun ty => Lib.run_next_end_at wr (w.heap.size + 1) s p ty hit hlt
      clear hS2 HC HA HSn hit hB
      go_wp2_with fail
      refine bodyPost_ret (v := .tuple #[.string ⟨#[]⟩, .int .i64 0, .int .i64 4]) (by simp [results, Tryd.results31, go_sem]) rfl ?_
      rw [HQ.out]
      exact RetU.badI rfl rfl hbr
end Go.Proofs.YtjfkiomegacpeaaDoor
