/-
  instant.read's inner function fields by its contract. Laid by wip/gen/fld.py.
-/
import Derived.Test.YtbficmdjblimfaaDoorNum
import Derived.Test.YtbficmdjblimfaaDoorIn3
namespace Go.Proofs.YtbficmdjblimfaaDoor
open Go.RowKit
/-- A moment's cells: its shape, the numbers, the nanoseconds, the zone's sign. -/
def momC (sh : Int) (f : Nat → Int) (ns z : Int) : Array Value := #[.int .i64 sh, .int .i64 (f 1), .int .i64 (f 2), .int .i64 (f 3), .int .i64 (f 4), .int .i64 (f 5), .int .i64 (f 6), .int .i64 (f 7), .int .i64 (f 8), .int .i64 ns, .int .u8 z]
theorem momC_get (sh : Int) (f : Nat → Int) (ns z : Int) (j : Nat) (h1 : 1 ≤ j) (h2 : j ≤ 8) : (momC sh f ns z)[j]? = some (.int .i64 (f j)) := by
  obtain rfl | rfl | rfl | rfl | rfl | rfl | rfl | rfl : j = 1 ∨ j = 2 ∨ j = 3 ∨ j = 4 ∨ j = 5 ∨ j = 6 ∨ j = 7 ∨ j = 8 := by omega
  all_goals rfl
theorem momC_put (sh : Int) (f g : Nat → Int) (ns z : Int) (j : Nat) (v : Int) (h1 : 1 ≤ j) (h2 : j ≤ 8) (hg : ∀ i, g i = if i = j then v else f i) : (momC sh f ns z).setIfInBounds j (.int .i64 v) = momC sh g ns z := by
  obtain rfl | rfl | rfl | rfl | rfl | rfl | rfl | rfl : j = 1 ∨ j = 2 ∨ j = 3 ∨ j = 4 ∨ j = 5 ∨ j = 6 ∨ j = 7 ∨ j = 8 := by omega
  all_goals
    unfold momC
    rw [hg 1, hg 2, hg 3, hg 4, hg 5, hg 6, hg 7, hg 8]
    rfl
/-- All blocks but A and M are as they were. -/
def But2 (A M : Nat) (w w' : World) : Prop := ∀ b, b ≠ A → b ≠ M → w'.heap[b]? = w.heap[b]?
theorem But2.refl (A M : Nat) (w : World) : But2 A M w w := fun _ _ _ => rfl
theorem But2.trans {A M : Nat} {a b c : World} (h : But2 A M a b) (h2 : But2 A M b c) : But2 A M a c := fun k hk hk2 => (h2 k hk hk2).trans (h k hk hk2)
theorem But2.of {A M : Nat} {w w' : World} (h : But A w w') : But2 A M w w' := fun b hb _ => h b hb
theorem But2.ofM {A M : Nat} {w w' : World} (h : But M w w') : But2 A M w w' := fun b _ hb => h b hb
theorem But2.blk {A M b : Nat} {w w' : World} {T : TypeId} {cs : Array Value} (h : But2 A M w w') (hb : b ≠ A) (hm : b ≠ M) (hB : Blk w b T cs) : Blk w' b T cs := (h b hb hm).trans hB
def RetF (s : ByteArray) (first : Nat) (sep : UInt8) (k q a A M B : Nat) (sh : Int) (f : Nat → Int) (ns z : Int) (w : World) (e : Go.Ending) (w' : World) : Prop :=
  (match Ins.fldR s.data.toList first sep k 0 a with
    | some p => e = .returned (.bool true) ∧ Blk w' A 3 #[.int .i64 (p.2 : Int)] ∧ p.2 ≤ s.size ∧ Blk w' M 47 (momC sh (Ins.wrF f q p.1) ns z)
    | none => e = .returned (.bool false) ∧ ∃ g : Nat → Int, Blk w' M 47 (momC sh g ns z)) ∧ Below B w w' ∧ But2 A M w w'
def numF (A S : Nat) : Value := .func (.func 37) #[] #[.pointer (some ⟨A, 0, none⟩), .pointer (some ⟨S, 0, none⟩)]
theorem num_end {s : ByteArray} {a n v : Nat} (h : Ins.numAt s.data.toList a n = some v) : a + n ≤ s.size ∨ n = 0 := by
  have := Ins.num_bd n 0 _ v h
  rw [List.length_drop, size_toList] at this
  omega
set_option maxRecDepth 100000 in
set_option maxHeartbeats 8000000 in
theorem fields_any (s : ByteArray) (first : Nat) (sep : UInt8) (k q cap a A S F M B : Nat) (w : World) (sh : Int) (f : Nat → Int) (ns z : Int) (hB : B ≤ A) (hBM : B ≤ M) (hq : 1 ≤ q) (hqk : q + k ≤ 9) (hcap : k ≤ cap) (hf1 : 1 ≤ first) (hf : first ≤ 9) (ha : a ≤ s.size) (hs : s.size ≤ 1000000)
    (hA : Blk w A 3 #[.int .i64 (a : Int)]) (hS : Blk w S 9 #[.string s]) (hF : Blk w F 61 #[numF A S]) (hM : Blk w M 47 (momC sh f ns z)) (hSA : S ≠ A) (hFA : F ≠ A) (hMA : M ≠ A) (hSM : S ≠ M) (hFM : F ≠ M) :
    Calls Tryd.prog 38 #[.slice (some ⟨M, q, none⟩) k cap, .int .i64 (first : Int), .int .u8 (sep.toNat : Int), .pointer (some ⟨A, 0, none⟩), .pointer (some ⟨S, 0, none⟩), .pointer (some ⟨F, 0, none⟩)] w (RetF s first sep k q a A M B sh f ns z w) := by
  obtain ⟨R, hR⟩ : ∃ R, R = Ins.fldR s.data.toList first sep k 0 a := ⟨_, rfl⟩
  unfold RetF
  rw [← hR]
  have HR : Hid (R = (Ins.fldR s.data.toList first sep k 0 a).map fun p => ([] ++ p.1, p.2)) := Lib.hid (by
    rw [hR]
    cases Ins.fldR s.data.toList first sep k 0 a with
    | none => rfl
    | some p => rfl)
  have hM0 : Blk w M 47 (momC sh (Ins.wrF f q []) ns z) := by rw [Ins.wrF_nil]; exact hM
  clear hR hM
  have HNUM := Lib.hid (fun (n a : Nat) (w1 : World) (hn : n ≤ 9) (ha : a ≤ s.size) => number_any s n a A S B w1 hB hn ha hs)
  unfold numF at hF
  go_enter Tryd.func38, Tryd.ntmps38
  go_wp2_with fail
  go_loopg [16] k (fun g iv wr => ∃ (i p : Nat) (vs : List Nat), i + g = k ∧ iv = .int .i64 (i : Int) ∧ vs.length = i ∧ p ≤ s.size ∧ Hid (R = (Ins.fldR s.data.toList first sep g i p).map fun r => (vs ++ r.1, r.2)) ∧ Blk wr A 3 #[.int .i64 (p : Int)] ∧ Blk wr M 47 (momC sh (Ins.wrF f q vs) ns z) ∧ Below B w wr ∧ But2 A M w wr)
  case atStart => exact ⟨0, a, [], by omega, rfl, rfl, ha, HR, hA, hM0, Below.refl _ _, But2.refl _ _ _⟩
  case round =>
    clear HR hM0
    obtain ⟨i, p, vs, hg, rfl, hvs, hp, HRg, hAr, hMr, hbr, hbut⟩ := hrel
    have hSr := hbut.blk hSA hSM hS
    have hFr := hbut.blk hFA hFM hF
    have cA : wr.cell? ⟨A, 0, none⟩ = some (.int .i64 (p : Int)) := hAr.at_ 0
    have cS : wr.cell? ⟨S, 0, none⟩ = some (.string s) := hSr.at_ 0
    have fA : wr.frozen? ⟨A, 0, none⟩ = false := hAr.free 0
    have cF : wr.cell? ⟨F, 0, none⟩ = some (.func (.func 37) #[] #[.pointer (some ⟨A, 0, none⟩), .pointer (some ⟨S, 0, none⟩)]) := hFr.at_ 0
    by_cases hi : i < k
    · obtain ⟨g, rfl⟩ : ∃ g, gk = g + 1 := ⟨gk - 1, by omega⟩
      by_cases hi0 : i = 0
      · subst hi0
        cases hN : Ins.numAt s.data.toList p first with
        | none =>
          have HRn : R = none := by have := HRg.out; rw [Ins.fldR_first, hN] at this; exact this
          subst HRn
          have HC : Hid (Calls Tryd.prog 37 #[.int .i64 (first : Int), .pointer (some ⟨A, 0, none⟩), .pointer (some ⟨S, 0, none⟩)] wr fun e w' => e = .returned (.tuple #[.int .i64 0, .bool false]) ∧ Below B wr w' ∧ But A wr w') := Lib.hid ((HNUM.out first p wr (by omega) hp hAr hSr hSA).mono fun e w' h => by
            unfold RetN at h
            rw [hN] at h
            exact ⟨h.1.1, h.2⟩)
          clear HNUM HRg hN cA fA
          go_wp2_with ((go_at_call 37; with_reducible refine HC.out.mono ?_; rintro e w5 ⟨rfl, hb5, hbut5⟩))
          go_ret
          exact ⟨⟨rfl, _, hbut5.blk hMA hMr⟩, hbr.trans hb5, hbut.trans (But2.of hbut5)⟩
        | some v =>
          have hend := num_end hN
          have HR2 : Hid (R = (Ins.fldR s.data.toList first sep g 1 (p + first)).map fun r => (vs ++ [v] ++ r.1, r.2)) := Lib.hid (by rw [HRg.out, Ins.fldR_first, hN]; simp only; rw [Option.map_map]; congr 1; funext r; simp [Function.comp])
          have HC : Hid (Calls Tryd.prog 37 #[.int .i64 (first : Int), .pointer (some ⟨A, 0, none⟩), .pointer (some ⟨S, 0, none⟩)] wr fun e w' => (e = .returned (.tuple #[.int .i64 (v : Int), .bool true]) ∧ Blk w' A 3 #[.int .i64 ((p + first : Nat) : Int)]) ∧ Below B wr w' ∧ But A wr w') := Lib.hid ((HNUM.out first p wr (by omega) hp hAr hSr hSA).mono fun e w' h => by
            unfold RetN at h
            rw [hN] at h
            exact h)
          clear HNUM HRg hN cA fA
          go_wp2_with ((go_at_call 37; with_reducible refine HC.out.mono ?_; rintro e w5 ⟨⟨rfl, hA5⟩, hb5, hbut5⟩; have hM5 := hbut5.blk hMA hMr; have cM : w5.cell? ⟨M, q, none⟩ = some (.int .i64 (Ins.wrF f q vs (q))) := (hM5.at_ (q)).trans (momC_get _ _ _ _ _ (by omega) (by omega)); have fM : w5.frozen? ⟨M, q, none⟩ = false := hM5.free _))
          have hM6 : Blk (w5.setCell ⟨M, q, none⟩ (.int .i64 (v : Int))) M 47 (momC sh (Ins.wrF f q (vs ++ [v])) ns z) := by
            have h := hM5.put (q) (.int .i64 (v : Int))
            rwa [momC_put sh _ (Ins.wrF f q (vs ++ [v])) ns z (q) (v : Int) (by omega) (by omega) (fun j => by rw [Ins.wrF_snoc, hvs]; try rfl)] at h
          have hA6 : Blk (w5.setCell ⟨M, q, none⟩ (.int .i64 (v : Int))) A 3 #[.int .i64 ((p + first : Nat) : Int)] := hA5.set_other (a := ⟨M, q, none⟩) (fun h => hMA h.symm) _
          go_roundg g
          case measure => omega
          case rel => exact ⟨1, p + first, vs ++ [v], by omega, by go_num, by rw [List.length_append, hvs]; rfl, by omega, HR2, hA6, hM6, (hbr.trans hb5).setCell (p := ⟨M, q, none⟩) hBM _, (hbut.trans (But2.of hbut5)).trans (But2.ofM (But.set _ _ _ _))⟩
      · obtain ⟨i, rfl⟩ : ∃ i', i = i' + 1 := ⟨i - 1, by omega⟩
        by_cases hsep : Ins.isAt s.data.toList p sep = true
        · have hpl : p < s.size ∧ True := by
            unfold Ins.isAt at hsep
            rw [beq_iff_eq] at hsep
            have := (List.getElem?_eq_some_iff.1 hsep).1
            rw [size_toList] at this
            exact ⟨this, trivial⟩
          have hpl := hpl.1
          have hsp : s[p] = sep := by
            unfold Ins.isAt at hsep
            rw [beq_iff_eq] at hsep
            obtain ⟨h1, h2⟩ := List.getElem?_eq_some_iff.1 hsep
            exact h2
          have c1 : (s[p].toNat : Int) = (sep.toNat : Int) := by rw [hsp]
          have hA2 : Blk (wr.setCell ⟨A, 0, none⟩ (.int .i64 ((p : Int) + 1))) A 3 #[.int .i64 ((p + 1 : Nat) : Int)] := hAr.put 0 (.int .i64 ((p : Int) + 1))
          have hS2 : Blk (wr.setCell ⟨A, 0, none⟩ (.int .i64 ((p : Int) + 1))) S 9 #[.string s] := hSr.set_other (a := ⟨A, 0, none⟩) hSA _
          have hM2 : Blk (wr.setCell ⟨A, 0, none⟩ (.int .i64 ((p : Int) + 1))) M 47 (momC sh (Ins.wrF f q vs) ns z) := hMr.set_other (a := ⟨A, 0, none⟩) hMA _
          have hb2 : Below B w (wr.setCell ⟨A, 0, none⟩ (.int .i64 ((p : Int) + 1))) := hbr.setCell (p := ⟨A, 0, none⟩) hB _
          have hbut2 : But2 A M w (wr.setCell ⟨A, 0, none⟩ (.int .i64 ((p : Int) + 1))) := hbut.trans (But2.of (But.set _ _ _ _))
          have hi0 : ((i : Int) + 1 == 0) = false := by rw [beq_eq_false_iff_ne]; omega
          have hi1 : 0 < (i : Int) + 1 := by omega
          cases hN : Ins.numAt s.data.toList (p + 1) 2 with
          | none =>
            have HRn : R = none := by have := HRg.out; rw [Ins.fldR_next, if_pos hsep, hN] at this; exact this
            subst HRn
            have HC : Hid (Calls Tryd.prog 37 #[.int .i64 2, .pointer (some ⟨A, 0, none⟩), .pointer (some ⟨S, 0, none⟩)] (wr.setCell ⟨A, 0, none⟩ (.int .i64 ((p : Int) + 1))) fun e w' => e = .returned (.tuple #[.int .i64 0, .bool false]) ∧ Below B (wr.setCell ⟨A, 0, none⟩ (.int .i64 ((p : Int) + 1))) w' ∧ But A (wr.setCell ⟨A, 0, none⟩ (.int .i64 ((p : Int) + 1))) w') := Lib.hid ((HNUM.out 2 (p + 1) (wr.setCell ⟨A, 0, none⟩ (.int .i64 ((p : Int) + 1))) (by omega) (by omega) hA2 hS2 hSA).mono fun e w' h => by
              unfold RetN at h
              rw [hN] at h
              exact ⟨h.1.1, h.2⟩)
            clear HNUM HRg hN hsep hsp
            go_wp2_with ((go_at_call 37; with_reducible refine HC.out.mono ?_; rintro e w5 ⟨rfl, hb5, hbut5⟩))
            go_ret
            exact ⟨⟨rfl, _, hbut5.blk hMA hM2⟩, hb2.trans hb5, hbut2.trans (But2.of hbut5)⟩
          | some v =>
            have hend := num_end hN
            have HR2 : Hid (R = (Ins.fldR s.data.toList first sep g (i + 2) ((p + 1) + 2)).map fun r => (vs ++ [v] ++ r.1, r.2)) := Lib.hid (by rw [HRg.out, Ins.fldR_next, if_pos hsep, hN]; simp only; rw [Option.map_map]; congr 1; funext r; simp [Function.comp])
            have HC : Hid (Calls Tryd.prog 37 #[.int .i64 2, .pointer (some ⟨A, 0, none⟩), .pointer (some ⟨S, 0, none⟩)] (wr.setCell ⟨A, 0, none⟩ (.int .i64 ((p : Int) + 1))) fun e w' => (e = .returned (.tuple #[.int .i64 (v : Int), .bool true]) ∧ Blk w' A 3 #[.int .i64 (((p + 1) + 2 : Nat) : Int)]) ∧ Below B (wr.setCell ⟨A, 0, none⟩ (.int .i64 ((p : Int) + 1))) w' ∧ But A (wr.setCell ⟨A, 0, none⟩ (.int .i64 ((p : Int) + 1))) w') := Lib.hid ((HNUM.out 2 (p + 1) (wr.setCell ⟨A, 0, none⟩ (.int .i64 ((p : Int) + 1))) (by omega) (by omega) hA2 hS2 hSA).mono fun e w' h => by
              unfold RetN at h
              rw [hN] at h
              exact h)
            clear HNUM HRg hN hsep hsp
            go_wp2_with ((go_at_call 37; with_reducible refine HC.out.mono ?_; rintro e w5 ⟨⟨rfl, hA5⟩, hb5, hbut5⟩; have hM5 := hbut5.blk hMA hM2; have cM : w5.cell? ⟨M, q + (i + 1), none⟩ = some (.int .i64 (Ins.wrF f q vs (q + (i + 1)))) := (hM5.at_ (q + (i + 1))).trans (momC_get _ _ _ _ _ (by omega) (by omega)); have fM : w5.frozen? ⟨M, q + (i + 1), none⟩ = false := hM5.free _))
            have hM6 : Blk (w5.setCell ⟨M, q + (i + 1), none⟩ (.int .i64 (v : Int))) M 47 (momC sh (Ins.wrF f q (vs ++ [v])) ns z) := by
              have h := hM5.put (q + (i + 1)) (.int .i64 (v : Int))
              rwa [momC_put sh _ (Ins.wrF f q (vs ++ [v])) ns z (q + (i + 1)) (v : Int) (by omega) (by omega) (fun j => by rw [Ins.wrF_snoc, hvs]; try rfl)] at h
            have hA6 : Blk (w5.setCell ⟨M, q + (i + 1), none⟩ (.int .i64 (v : Int))) A 3 #[.int .i64 (((p + 1) + 2 : Nat) : Int)] := hA5.set_other (a := ⟨M, q + (i + 1), none⟩) (fun h => hMA h.symm) _
            go_roundg g
            case measure => omega
            case rel => exact ⟨(i + 2), (p + 1) + 2, vs ++ [v], by omega, by go_num, by rw [List.length_append, hvs]; rfl, by omega, HR2, hA6, hM6, (hb2.trans hb5).setCell (p := ⟨M, q + (i + 1), none⟩) hBM _, (hbut2.trans (But2.of hbut5)).trans (But2.ofM (But.set _ _ _ _))⟩
        · obtain rfl : R = none := by
            have := HRg.out
            rw [Ins.fldR_next, if_neg hsep] at this
            exact this
          have hi1 : 0 < (i : Int) + 1 := by omega
          by_cases hpl : p < s.size
          · have c1 : ((s[p].toNat : Int) != (sep.toNat : Int)) = true := by
              rw [bne_iff_ne]
              intro h
              refine hsep ?_
              unfold Ins.isAt
              rw [beq_iff_eq, List.getElem?_eq_getElem (by rw [size_toList]; exact hpl)]
              congr 1
              show s[p] = sep
              exact UInt8.toNat_inj.1 (by omega)
            clear HNUM HRg hsep
            go_wp2_with fail
            go_ret
            exact ⟨⟨rfl, _, hMr⟩, hbr, hbut⟩
          · clear HNUM HRg hsep
            go_wp2_with fail
            go_ret
            exact ⟨⟨rfl, _, hMr⟩, hbr, hbut⟩
    · obtain rfl : R = some (vs, p) := by
        have := HRg.out
        rw [show gk = 0 by omega, Ins.fldR_zero] at this
        simpa using this
      clear HNUM HRg
      go_wp2_with fail
      go_ret
      exact ⟨⟨rfl, hAr, hMr⟩, hbr, hbut⟩
end Go.Proofs.YtbficmdjblimfaaDoor
