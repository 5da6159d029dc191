/-
  The chapter's examples (awake) by their contract; what the laws ask of the plain functions.
-/
import Derived.Test.YtbficmdjblimfaaDoorInd
import Derived.Test.YtbficmdjblimfaaDoorIn5
namespace Go.Proofs.YtbficmdjblimfaaDoor
open Go.RowKit
def srcA : List UInt8 := [50, 48, 50, 54, 45, 49, 49, 45, 49, 54, 32, 49, 48, 58, 52, 54, 58, 51, 56, 46, 53, 48, 43, 48, 49, 58, 48, 48]
def ansA : List UInt8 := [50, 48, 50, 54, 45, 49, 49, 45, 49, 54, 84, 48, 57, 58, 52, 54, 58, 51, 56, 46, 53, 90]
def srcB : List UInt8 := [48, 57, 58, 52, 54, 58, 51, 56, 46, 48, 48, 48]
def ansB : List UInt8 := [48, 57, 58, 52, 54, 58, 51, 56]
def srcC : List UInt8 := [49, 57, 54, 57, 45, 49, 50, 45, 51, 49, 84, 50, 51, 58, 53, 57, 58, 53, 57, 46, 53, 90]
theorem aw_a : Ins.instant srcA = .ok ansA := by kernel_rfl
theorem aw_b : Ins.localOf srcB = .ok ansB := by kernel_rfl
theorem aw_c : secsOf srcC = some (-1, 500000000) := by kernel_rfl
theorem aw_d : shapeOf ansB = 2 := by kernel_rfl
set_option maxRecDepth 100000 in
set_option maxHeartbeats 4000000 in
theorem awake_any (w : World) (hE : EnvI w) :
    Calls Tryd.prog 10 #[] w fun e w' => e = .returned (.bool true) ∧ Below w.heap.size w w' := by
  have HA : Hid (∀ w1, Below w.heap.size w w1 → Calls Tryd.prog 11 #[.string ⟨#[50, 48, 50, 54, 45, 49, 49, 45, 49, 54, 32, 49, 48, 58, 52, 54, 58, 51, 56, 46, 53, 48, 43, 48, 49, 58, 48, 48]⟩] w1 fun e w' => e = .returned (.tuple #[.string ⟨#[50, 48, 50, 54, 45, 49, 49, 45, 49, 54, 84, 48, 57, 58, 52, 54, 58, 51, 56, 46, 53, 90]⟩, .int .i64 0]) ∧ Below w1.heap.size w1 w') := Lib.hid (fun w1 hb => by
    have := instant_any ⟨#[50, 48, 50, 54, 45, 49, 49, 45, 49, 54, 32, 49, 48, 58, 52, 54, 58, 51, 56, 46, 53, 48, 43, 48, 49, 58, 48, 48]⟩ w1 (by decide) (hE.below hb)
    rw [show (⟨#[50, 48, 50, 54, 45, 49, 49, 45, 49, 54, 32, 49, 48, 58, 52, 54, 58, 51, 56, 46, 53, 48, 43, 48, 49, 58, 48, 48]⟩ : ByteArray).data.toList = srcA from rfl, aw_a] at this
    exact this)
  have HB : Hid (∀ w1, Below w.heap.size w w1 → Calls Tryd.prog 13 #[.string ⟨#[48, 57, 58, 52, 54, 58, 51, 56, 46, 48, 48, 48]⟩] w1 fun e w' => e = .returned (.tuple #[.string ⟨#[48, 57, 58, 52, 54, 58, 51, 56]⟩, .int .i64 0]) ∧ Below w1.heap.size w1 w') := Lib.hid (fun w1 hb => by
    have := local_any ⟨#[48, 57, 58, 52, 54, 58, 51, 56, 46, 48, 48, 48]⟩ w1 (by decide) (hE.below hb)
    rw [show (⟨#[48, 57, 58, 52, 54, 58, 51, 56, 46, 48, 48, 48]⟩ : ByteArray).data.toList = srcB from rfl, aw_b] at this
    exact this)
  have HC : Hid (∀ w1, Below w.heap.size w w1 → Calls Tryd.prog 17 #[.string ⟨#[49, 57, 54, 57, 45, 49, 50, 45, 51, 49, 84, 50, 51, 58, 53, 57, 58, 53, 57, 46, 53, 90]⟩] w1 fun e w' => e = .returned (.tuple #[.int .i64 (-1), .int .i64 500000000, .int .i64 0]) ∧ Below w1.heap.size w1 w') := Lib.hid (fun w1 hb => by
    have := iseconds_any ⟨#[49, 57, 54, 57, 45, 49, 50, 45, 51, 49, 84, 50, 51, 58, 53, 57, 58, 53, 57, 46, 53, 90]⟩ w1 (by decide) (hE.below hb)
    rw [show (⟨#[49, 57, 54, 57, 45, 49, 50, 45, 51, 49, 84, 50, 51, 58, 53, 57, 58, 53, 57, 46, 53, 90]⟩ : ByteArray).data.toList = srcC from rfl, aw_c] at this
    exact this)
  have HD : Hid (∀ w1, Below w.heap.size w w1 → Calls Tryd.prog 16 #[.string ⟨#[48, 57, 58, 52, 54, 58, 51, 56]⟩] w1 fun e w' => e = .returned (.int .i64 2) ∧ Below w1.heap.size w1 w') := Lib.hid (fun w1 hb => by
    have := shape_any ⟨#[48, 57, 58, 52, 54, 58, 51, 56]⟩ w1 (by decide) (hE.below hb)
    rw [show (⟨#[48, 57, 58, 52, 54, 58, 51, 56]⟩ : ByteArray).data.toList = ansB from rfl, aw_d] at this
    exact this)
  clear hE
  go_enter Tryd.func10, Tryd.ntmps10
  go_wp2_with (first | (go_at_call 11; with_reducible refine (HA.out _ (Below.refl _ _)).mono ?_; rintro e w5 ⟨rfl, hb5⟩) | (go_at_call 13; with_reducible refine (HB.out _ hb5).mono ?_; rintro e w6 ⟨rfl, hb6⟩; have hb7 := below_tr hb5 hb6) | (go_at_call 17; with_reducible refine (HC.out _ hb7).mono ?_; rintro e w8 ⟨rfl, hb8⟩; have hb9 := below_tr hb7 hb8) | (go_at_call 16; with_reducible refine (HD.out _ hb9).mono ?_; rintro e w10 ⟨rfl, hb10⟩))
  go_ret
  exact ⟨rfl, below_tr hb9 hb10⟩
/-! ### What the laws ask -/
theorem bsz (t : List UInt8) : (⟨t.toArray⟩ : ByteArray).size = t.length := by simp [ByteArray.size]
theorem text_len (m : Ins.M) : m.text.length ≤ 29 := by
  have h1 : (Ins.fracT m.ns).length ≤ 10 := by
    unfold Ins.fracT
    split
    · exact Nat.zero_le _
    · obtain ⟨k, _, h⟩ := Ins.strip_split (Ins.pad 9 m.ns)
      rw [Ins.pad_len] at h
      rw [List.length_cons]
      omega
  unfold Ins.M.text
  rw [List.length_append, List.length_append, List.length_append]
  have h2 : (if m.date then Ins.dateT m.y m.mo m.d else []).length ≤ 10 := by
    split
    · rw [Ins.date_form]; exact Nat.le_refl _
    · exact Nat.zero_le _
  have h3 : (if (m.date && m.time) = true then [(84 : UInt8)] else []).length ≤ 1 := by
    split
    · exact Nat.le_refl _
    · exact Nat.zero_le _
  have h4 : (if m.time then Ins.hmsT m.h m.mi m.s else []).length ≤ 8 := by
    split
    · rw [Ins.hms_form]; exact Nat.le_refl _
    · exact Nat.zero_le _
  omega
theorem instant_len {L t : List UInt8} (h : Ins.instant L = .ok t) : t.length ≤ 30 := by
  obtain ⟨k, j, m, _, _, _, _, _, _, _, rfl⟩ := Ins.instant_ok h
  rw [List.length_append]
  have := text_len (Ins.ofS k j)
  simp only [List.length_singleton]
  omega
theorem local_len {L t : List UInt8} (h : Ins.localOf L = .ok t) : t.length ≤ 30 := by
  obtain ⟨m, _, _, _, rfl, _⟩ := Ins.local_ok h
  have := text_len m
  omega
theorem ofs_len {n ns : Int} {t : List UInt8} (h : Ins.ofSeconds n ns = .ok t) : t.length ≤ 30 := by
  obtain ⟨k, j, _, _, _, _, rfl⟩ := Ins.ofSeconds_ok h
  rw [List.length_append]
  have := text_len (Ins.ofS k j)
  simp only [List.length_singleton]
  omega
theorem shape_eq {m : Ins.M} (_ : m.rd) : shape m = (if m.date then 1 else 0) + (if m.time then 2 else 0) := rfl
theorem shape_pos {m : Ins.M} (h : m.rd) : 0 < shape m := by
  unfold shape
  rcases h.some_ with h | h
  · rw [h, if_pos rfl]; omega
  · rw [h, if_pos rfl]; omega
theorem canon_secs {L : List UInt8} {m : Ins.M} (h : canonOf L = some m) : Ins.read L = some m ∧ secsOf L = some (m.secs - Ins.epoch, m.ns) ∧ Ins.instant L = .ok L ∧ m.z ≠ 0 ∧ m.rd ∧ Ins.dateOk m.y m.mo m.d ∧ Ins.ofSeconds (m.secs - Ins.epoch) m.ns = .ok L ∧ ∃ k : Nat, k < Ins.top ∧ m.secs = k := by
  unfold secsOf
  rw [h]
  unfold canonOf at h
  split at h
  · rename_i t ht
    by_cases hl : t = L
    · rw [if_pos hl] at h
      subst hl
      obtain ⟨m2, hm, hz, hr, k, h1, h2, h3, hrd, hd⟩ := canon_ok ht
      rw [hm] at h
      simp only [Option.some.injEq] at h
      subst h
      refine ⟨hm, rfl, ht, hz, hrd, hd, ?_, k, h1, h2⟩
      have h4 := ht
      unfold Ins.instant at h4
      rw [hm] at h4
      simp only at h4
      rw [if_neg hz, hr, if_neg (by decide)] at h4
      exact h4
    · rw [if_neg hl] at h; cases h
  · cases h
theorem secs_canon {L : List UInt8} {N : Int} {j : Nat} (h : secsOf L = some (N, j)) : ∃ m, canonOf L = some m ∧ N = m.secs - Ins.epoch ∧ j = m.ns := by
  cases hc : canonOf L with
  | none => unfold secsOf at h; rw [hc] at h; cases h
  | some m =>
    have := (canon_secs hc).2.1
    rw [h] at this
    simp only [Option.some.injEq, Prod.mk.injEq] at this
    exact ⟨m, rfl, this.1, this.2⟩
theorem secs_inj {A B : List UInt8} {p : Int × Nat} (ha : secsOf A = some p) (hb : secsOf B = some p) : A = B := by
  obtain ⟨x, j⟩ := p
  obtain ⟨m, h1, rfl, rfl⟩ := secs_canon ha
  obtain ⟨m2, h2, h3, h4⟩ := secs_canon hb
  have e1 := (canon_secs h1).2.2.2.2.2.2.1
  have e2 := (canon_secs h2).2.2.2.2.2.2.1
  rw [← h3, ← h4, e1] at e2
  simpa using e2
theorem secs_of {n ns : Int} {t : List UInt8} (h : Ins.ofSeconds n ns = .ok t) : ∃ k j : Nat, k < Ins.top ∧ j ≤ 999999999 ∧ n = (k : Int) - 62167219200 ∧ ns = (j : Int) ∧ t = (Ins.ofS k j).text ++ [90] ∧ secsOf t = some (n, j) := by
  obtain ⟨k, j, h1, h2, h3, h4, h5⟩ := Ins.ofSeconds_ok h
  refine ⟨k, j, h1, h2, h3, h4, h5, ?_⟩
  have hi := Ins.instant_ofS k j h1 h2
  have hr := Ins.ofS_read k j h1 h2
  have hw := Ins.ofS_wf k j h1 h2
  rw [← h5] at hi hr
  unfold secsOf canonOf
  rw [hi]
  simp only
  rw [if_pos trivial, hr]
  simp only [Option.map_some]
  rw [hw.2.2, ← h3]
  rfl
end Go.Proofs.YtbficmdjblimfaaDoor
