/-
  codepoint.Check by its contract.
-/
import Derived.Test.YtjfkiomegacpeaaDoorKit9
import Derived.Test.YtjfkiomegacpeaaDoorShelf
import Derived.Test.YtjfkiomegacpeaaDoorChecked
import Derived.Lib.OthersKept
import Derived.Lib.TrimUEq
import Derived.Lib.RuneCountTail
import Derived.Deep.LoopGhost
import Derived.Outline
import Derived.Lib.Hide
namespace Go.Proofs.YtjfkiomegacpeaaDoor
open Go.RowKit
/-- Where the first sequence that is not well-formed begins. -/
def chk : Nat → Nat → List UInt8 → Option Nat
  | 0, _, _ => none
  | _ + 1, _, [] => none
  | f + 1, p, c :: r => if (Lib.decodeL (c :: r)).1 = 65533 ∧ (Lib.decodeL (c :: r)).2 = 1 then some p else chk f (p + (Lib.decodeL (c :: r)).2) ((c :: r).drop (Lib.decodeL (c :: r)).2)
def chkV : Option Nat → Int × Int
  | none => (-1, 0)
  | some p => ((p : Int), 11)
def RetK (w : World) (o : Option Nat) (e : Go.Ending) (w' : World) : Prop := e = .returned (.tuple #[.int .i64 (chkV o).1, .int .i64 (chkV o).2]) ∧ Below w.heap.size w w'
theorem chk_round (f p : Nat) (L : List UInt8) (h : p < L.length) (R K : Nat) (hd : Lib.decodeL (L.drop p) = (R, K)) : chk (f + 1) p (L.drop p) = if R = 65533 ∧ K = 1 then some p else chk f (p + K) (L.drop (p + K)) := by
  have e : L.drop p = L[p] :: L.drop (p + 1) := List.drop_eq_getElem_cons h
  rw [← List.drop_drop]
  generalize L.drop p = l at *
  subst e
  have e2 : chk (f + 1) p (L[p] :: L.drop (p + 1)) = if (Lib.decodeL (L[p] :: L.drop (p + 1))).1 = 65533 ∧ (Lib.decodeL (L[p] :: L.drop (p + 1))).2 = 1 then some p else chk f (p + (Lib.decodeL (L[p] :: L.drop (p + 1))).2) ((L[p] :: L.drop (p + 1)).drop (Lib.decodeL (L[p] :: L.drop (p + 1))).2) := rfl
  rw [e2, hd]
theorem decodeGo_from (s : ByteArray) (n : Nat) (h : n < s.size) : Lib.decodeGo (s.extract n s.size) = Utf8.decode s n := by
  have hz : (s.extract n s.size).size ≠ 0 := by
    have h1 := congrArg List.length (Lib.extract_to_end s n)
    rw [size_toList, List.length_drop, size_toList] at h1
    omega
  unfold Lib.decodeGo
  rw [if_neg hz, Lib.tail_decode, Nat.add_zero]
theorem width_le (s : ByteArray) (n : Nat) (h : n < s.size) : n + (Utf8.decode s n).2 ≤ s.size := by
  rw [Lib.decode_at]
  unfold Lib.decodeN
  repeat' split
  all_goals (first | (simp only; omega) | omega)
set_option maxRecDepth 100000 in
set_option maxHeartbeats 4000000 in
theorem check_any (s : ByteArray) (w : World) (hs : s.size ≤ 140737488351232) (hT : Lib.Utf8Tabs (Tryd.lays197_ren.g 3) (Tryd.lays197_ren.g 4) w) :
    Calls Tryd.prog 18 #[.string s] w (RetK w (chk (s.size + 1) 0 s.data.toList)) := by
  obtain ⟨C, hC⟩ : ∃ C, C = chk (s.size + 1) 0 s.data.toList := ⟨_, rfl⟩
  rw [← hC]
  have HC0 : Hid (C = chk (s.size + 1) 0 (s.data.toList.drop 0)) := Lib.hid hC
  have HT := Lib.hid hT
  clear hC hT
  go_enter Tryd.func18, Tryd.ntmps18
  go_wp2
  go_loopg [4] s.size (fun g _ wr => ∃ (p f : Nat), p + g = s.size ∧ s.size - p < f ∧ Hid (C = chk f p (s.data.toList.drop p)) ∧ Hid (wr.heap[w.heap.size]? = some (.stringIter s p)) ∧ Below w.heap.size w wr)
  case atStart =>
    exact ⟨0, s.size + 1, by omega, by omega, HC0, Lib.hid (World.iter_heap w s 0), below_alloc _⟩
  case round =>
    clear HC0
    obtain ⟨p, f, hg, hf, HC, HI, hbel⟩ := hrel
    by_cases hlt : p < s.size
    · obtain ⟨f, rfl⟩ : ∃ f', f = f' + 1 := ⟨f - 1, by omega⟩
      have hnx := fun ty => Lib.run_next_any_at (P := Tryd.prog) wr w.heap.size s p ty HI.out hlt
      have HI2 := fun q => Lib.hid (Lib.iterAt_heap wr w.heap.size s p q HI.out)
      have hb2 := fun q => Lib.below_iterAt hbel (Nat.le_refl w.heap.size) s q
      have HD := Tryd.utf8_DecodeRuneInString (s.extract p s.size)
      rw [decodeGo_from s p hlt] at HD
      have hK1 := Lib.width_pos s p
      have hK2 := width_le s p hlt
      have hR := Lib.rune_le s p
      have hcr := chk_round f p s.data.toList (by rw [size_toList]; exact hlt)
      rw [Lib.decodeL_drop] at hcr
      generalize Utf8.decode s p = RK at *
      obtain ⟨R, K⟩ := RK
      have HS := Lib.hid (HC.out.trans (hcr R K rfl))
      have HD := Lib.hid HD
      simp only at hK1 hK2 hR
      clear HC hcr HI
      have hb3 := hb2 (p + K)
      have HI3 := HI2 (p + K)
      clear hb2 HI2
      simp only at hnx
      generalize wr.iterAt w.heap.size s (p + K) = w2 at *
      by_cases h1 : R = 65533
      · by_cases h2 : K = 1
        · have HS2 : Hid (C = some p) := Lib.hid (HS.out.trans (if_pos ⟨h1, h2⟩))
          subst h1
          subst h2
          clear HS
          go_wp2_with (go_at_call 27; refine (HD.out _ (Utf8Tabs_below HT.out hb3)).mono ?_; rintro e w3 ⟨rfl, hb4⟩)
          go_ret2
          rw [HS2.out]
          exact ⟨rfl, hb3.trans (hb4.mono hb3.size)⟩
        · have HS2 : Hid (C = chk f (p + K) (s.data.toList.drop (p + K))) := Lib.hid (HS.out.trans (if_neg (fun h => h2 h.2)))
          have h3 : ((K : Int) == 1) = false := by rw [beq_eq_false_iff_ne]; omega
          subst h1
          clear HS h2
          go_wp2_with (go_at_call 27; refine (HD.out _ (Utf8Tabs_below HT.out hb3)).mono ?_; rintro e w3 ⟨rfl, hb4⟩)
          go_roundg (s.size - (p + K))
          case measure => omega
          case rel => exact ⟨p + K, f, by omega, by omega, HS2, Lib.hid ((hb4.block _ (Array.getElem?_eq_some_iff.1 HI3.out).1).trans HI3.out), hb3.trans (hb4.mono hb3.size)⟩
      · have h3 : ((R : Int) == 65533) = false := by rw [beq_eq_false_iff_ne]; omega
        have HS2 : Hid (C = chk f (p + K) (s.data.toList.drop (p + K))) := Lib.hid (HS.out.trans (if_neg (fun h => h1 h.1)))
        clear HS HD h1
        go_wp2
        go_roundg (s.size - (p + K))
        case measure => omega
        case rel => exact ⟨p + K, f, by omega, by omega, HS2, HI3, hb3⟩
    · have hp8 : p = s.size := by omega
      have hnx := fun ty => Lib.run_next_end_at (P := Tryd.prog) wr w.heap.size s p ty HI.out hlt
      have HC9 : Hid (C = none) := Lib.hid (HC.out.trans (by rw [List.drop_of_length_le (by rw [size_toList]; omega)]; match f with | 0 => rfl | _ + 1 => rfl))
      clear HC hp8 HI
      go_wp2
      go_ret2
      rw [HC9.out]
      exact ⟨rfl, hbel⟩
end Go.Proofs.YtjfkiomegacpeaaDoor
