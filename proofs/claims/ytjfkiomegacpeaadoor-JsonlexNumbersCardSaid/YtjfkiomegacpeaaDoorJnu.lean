/-
  The plain law of numbers: a sequence of number characters is one token, or the error of a number. No program stands in it.
-/
import Derived.Test.YtjfkiomegacpeaaDoorJs2
namespace Jsn
def numc (c : UInt8) : Bool := (48 ≤ c && c ≤ 57) || c == 46 || c == 43 || c == 45 || c == 101 || c == 69
theorem numc_seq : ∀ c : UInt8, numc c = true → seqc c = true := by
  have h : ∀ n, n < 256 → numc (UInt8.ofNat n) = true → seqc (UInt8.ofNat n) = true := by decide +kernel
  intro c
  have := h c.toNat (UInt8.toNat_lt c)
  simpa using this
theorem numc_head : ∀ c : UInt8, numc c = true → letter c = false → numeric c = true ∧ white c = false ∧ punct c = false ∧ c ≠ 34 ∧ c ≠ 47 ∧ seqc c = true := by
  have h : ∀ n, n < 256 → numc (UInt8.ofNat n) = true → letter (UInt8.ofNat n) = false → numeric (UInt8.ofNat n) = true ∧ white (UInt8.ofNat n) = false ∧ punct (UInt8.ofNat n) = false ∧ UInt8.ofNat n ≠ 34 ∧ UInt8.ofNat n ≠ 47 ∧ seqc (UInt8.ofNat n) = true := by decide +kernel
  intro c
  have := h c.toNat (UInt8.toNat_lt c)
  simpa using this
theorem numc_ascii : ∀ c : UInt8, numc c = true → c.toNat < 128 := by
  have h : ∀ n, n < 256 → numc (UInt8.ofNat n) = true → (UInt8.ofNat n).toNat < 128 := by decide +kernel
  intro c
  have := h c.toNat (UInt8.toNat_lt c)
  simpa using this
theorem run_nums : ∀ l : List UInt8, (∀ c ∈ l, numc c = true) → run seqc l = l.length
  | [], _ => rfl
  | c :: l, h => by
    rw [run_cons, if_pos (numc_seq c (h c List.mem_cons_self)), run_nums l (fun d hd => h d (List.mem_cons_of_mem _ hd)), List.length_cons]
theorem scan_nums (l : List UInt8) (hne : l ≠ []) (hc : ∀ c ∈ l, numc c = true) (h0 : letter (l.headD 0) = false) : scan l = if numeral l then .ok [⟨3, 0, l.length, l⟩] [] else .bad 12 0 := by
  cases l with
  | nil => exact absurd rfl hne
  | cons c r =>
    obtain ⟨h1, h2, h3, h4, h5, h6⟩ := numc_head c (hc c List.mem_cons_self) h0
    have hco : comment (c :: r) = some 0 := by
      unfold comment
      split
      · rename_i heq; simp only [List.cons.injEq] at heq; exact absurd heq.1 h5
      · rename_i heq; simp only [List.cons.injEq] at heq; exact absurd heq.1 h5
      · rfl
    have hseq : sequence (c :: r) = if numeral (c :: r) then .ok 3 (c :: r).length (c :: r) else .bad 12 0 := by
      unfold sequence
      rw [run_nums (c :: r) hc, List.take_length, List.headD_cons, h1]
      rfl
    have htok : token (c :: r) = sequence (c :: r) := by
      unfold token
      rw [List.headD_cons, h3, h6]
      have : (c == 34) = false := by rw [beq_eq_false_iff_ne]; exact h4
      rw [this]
      rfl
    have hstep : step (c :: r) = tstep (sequence (c :: r)) := by
      unfold step
      rw [List.headD_cons, h2, hco, htok]
      rfl
    unfold scan
    rw [List.length_cons]
    unfold scanF
    rw [hstep, hseq]
    cases numeral (c :: r) with
    | false => rfl
    | true =>
      simp only [if_true, tstep]
      rw [List.drop_length]
      have : scanF r.length [] = .ok [] [] := by cases r.length <;> rfl
      rw [this]
      rfl
end Jsn
