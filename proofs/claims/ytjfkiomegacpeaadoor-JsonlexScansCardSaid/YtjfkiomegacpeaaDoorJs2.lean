/-
  The plain law of jsonlex, third part: a scan up to a line feed does not look behind it; what lies between tokens. No program stands in it.
-/
import Derived.Test.YtjfkiomegacpeaaDoorJs1
namespace Jsn
/-! ### Locality -/
theorem hexNum_app : ∀ (n v : Nat) (l z : List UInt8) (x : Nat), hexNum n v l = some x → hexNum n v (l ++ z) = some x
  | 0, v, l, z, x, h => by simpa [hexNum] using h
  | n + 1, v, [], z, x, h => by simp [hexNum] at h
  | n + 1, v, c :: l, z, x, h => by
    rw [List.cons_append]
    unfold hexNum at h ⊢
    cases hd : digit c with
    | none => rw [hd] at h; simp at h
    | some d =>
      rw [hd] at h
      exact hexNum_app n _ l z x h
theorem unit_app (l z : List UInt8) (x : Nat) (h : unit l = some x) : unit (l ++ z) = some x := by
  unfold unit at h
  split at h
  · rename_i r
    show hexNum 4 0 (r ++ z) = some x
    exact hexNum_app 4 0 r z x h
  · simp at h
theorem escape_app (l z : List UInt8) (x n : Nat) (h : escape l = .ok x n) : escape (l ++ z) = .ok x n := by
  unfold escape at h
  cases hu : unit l with
  | none =>
    rw [hu] at h
    simp only at h
    split at h
    · rename_i hm
      have hm1 : 0 < meaning (l.getD 1 0) := hm
      match l, hu, hm1, h with
      | [], _, hm1, _ => exact absurd hm1 (by decide)
      | [a], _, hm1, _ => exact absurd hm1 (by simp [meaning])
      | a :: b :: r, hu, hm1, h =>
        have hb : b ≠ 117 := fun e => by subst e; exact absurd hm1 (by simp [meaning])
        have hz : unit (a :: b :: r ++ z) = none := by
          show unit (a :: b :: (r ++ z)) = none
          unfold unit
          split
          · rename_i heq
            simp only [List.cons.injEq] at heq
            exact absurd heq.2.1 hb
          · rfl
        unfold escape
        rw [hz]
        simp only
        show (if 0 < meaning b then Esc.ok (meaning b) 2 else Esc.bad 4) = _
        have hm2 : 0 < meaning b := hm1
        rw [if_pos hm2]
        exact h
    · simp at h
  | some u =>
    rw [hu] at h
    have h6 := (unit_bd l u hu).1
    unfold escape
    rw [unit_app l z u hu]
    simp only at h ⊢
    split at h
    · rename_i hc; rw [if_pos hc]; exact h
    · rename_i hc
      rw [if_neg hc]
      rw [List.drop_append_of_le_length h6]
      cases hu2 : unit (l.drop 6) with
      | none => rw [hu2] at h; simp at h
      | some low =>
        rw [hu2] at h
        rw [unit_app _ z low hu2]
        exact h
theorem quo_app : ∀ (f g a : Nat) (out l z t : List UInt8) (n : Nat), quo f a out l = .ok t n → f ≤ g → quo g a out (l ++ z) = .ok t n
  | 0, _, a, out, l, z, t, n, h, _ => by simp [quo] at h
  | f + 1, 0, _, _, _, _, _, _, _, hg => by omega
  | f + 1, g + 1, a, out, [], z, t, n, h, _ => by simp [quo] at h
  | f + 1, g + 1, a, out, c :: r, z, t, n, h, hg => by
    rw [List.cons_append]
    unfold quo at h ⊢
    by_cases h34 : (c == 34) = true
    · rw [if_pos h34] at h ⊢; exact h
    · rw [if_neg h34] at h ⊢
      by_cases h32 : c < 32
      · rw [if_pos h32] at h; simp at h
      · rw [if_neg h32] at h ⊢
        by_cases h92 : (c == 92) = true
        · rw [if_pos h92] at h ⊢
          cases he : escape (c :: r) with
          | ok x m =>
            rw [he] at h
            have he2 := escape_app (c :: r) z x m he
            rw [List.cons_append] at he2
            rw [he2]
            have hb := escape_bd (c :: r) (by simpa using h92) x m he
            simp only at h ⊢
            rw [← List.cons_append, List.drop_append_of_le_length hb.2.1]
            exact quo_app f g _ _ _ z t n h (by omega)
          | bad e => rw [he] at h; simp at h
        · rw [if_neg h92] at h ⊢
          exact quo_app f g _ _ _ z t n h (by omega)
theorem run_app (p : UInt8 → Bool) (x : UInt8) (hx : p x = false) (z : List UInt8) : ∀ l : List UInt8, run p (l ++ x :: z) = run p l
  | [] => by rw [List.nil_append, run_cons, hx]; rfl
  | c :: l => by rw [List.cons_append, run_cons, run_cons, run_app p x hx z l]
theorem take_app (p : UInt8 → Bool) (l z : List UInt8) : (l ++ z).take (run p l) = l.take (run p l) := List.take_append_of_le_length (run_le p l)
theorem headD_app (l z : List UInt8) (hl : l ≠ []) : (l ++ z).headD 0 = l.headD 0 := by
  cases l with
  | nil => exact absurd rfl hl
  | cons c r => rfl
theorem sequence_app (l z : List UInt8) (hl : l ≠ []) : sequence (l ++ 10 :: z) = sequence l := by
  unfold sequence
  rw [run_app seqc 10 (by decide) z l, take_app, headD_app l _ hl]
theorem token_app (l z : List UInt8) (hl : l ≠ []) (k n : Nat) (t : List UInt8) (h : token l = .ok k n t) : token (l ++ 10 :: z) = .ok k n t := by
  have hlen : 1 ≤ l.length := by cases l; exact absurd rfl hl; simp
  unfold token at h ⊢
  rw [headD_app l _ hl, sequence_app l z hl, List.take_append_of_le_length hlen, List.drop_append_of_le_length hlen]
  by_cases h1 : punct (l.headD 0) = true
  · rw [if_pos h1] at h ⊢; exact h
  · rw [if_neg h1] at h ⊢
    by_cases h2 : (l.headD 0 == 34) = true
    · rw [if_pos h2] at h ⊢
      cases hq : quo l.length 1 [] (l.drop 1) with
      | ok t2 n2 =>
        rw [hq] at h
        rw [quo_app l.length _ 1 [] _ (10 :: z) t2 n2 hq (by rw [List.length_append]; omega)]
        exact h
      | bad e n2 => rw [hq] at h; simp [qtok] at h
    · rw [if_neg h2] at h ⊢; exact h
theorem close_app : ∀ (l z : List UInt8) (k : Nat), close l = some k → close (l ++ z) = some k
  | [], z, k, h => by simp [close] at h
  | [a], z, k, h => by simp [close] at h
  | a :: b :: r, z, k, h => by
    rw [List.cons_append, List.cons_append]
    unfold close at h ⊢
    split
    · rename_i hc; rw [if_pos hc] at h; exact h
    · rename_i hc
      rw [if_neg hc] at h
      cases hq : close (b :: r) with
      | none => rw [hq] at h; simp at h
      | some j =>
        rw [hq] at h
        have := close_app (b :: r) z j hq
        rw [List.cons_append] at this
        rw [this]
        exact h
theorem comment_sl (r : List UInt8) : comment (47 :: 47 :: r) = some (2 + run (fun c => c != 10) r) := rfl
theorem comment_bl (r : List UInt8) : comment (47 :: 42 :: r) = (close r).map (· + 4) := rfl
theorem comment_no (a b : UInt8) (r : List UInt8) (h : ¬ (a = 47 ∧ (b = 47 ∨ b = 42))) : comment (a :: b :: r) = some 0 := by
  unfold comment
  split
  · rename_i heq
    simp only [List.cons.injEq] at heq
    exact absurd ⟨heq.1, Or.inl heq.2.1⟩ h
  · rename_i heq
    simp only [List.cons.injEq] at heq
    exact absurd ⟨heq.1, Or.inr heq.2.1⟩ h
  · rfl
theorem comment_app (l z : List UInt8) (hl : l ≠ []) (m : Nat) (h : comment l = some m) : comment (l ++ 10 :: z) = some m := by
  match l, hl, h with
  | [a], _, h =>
    have h0 : m = 0 := by
      unfold comment at h
      split at h
      · rename_i heq; simp at heq
      · rename_i heq; simp at heq
      · simpa using h.symm
    subst h0
    show comment (a :: 10 :: z) = some 0
    exact comment_no a 10 z (by rintro ⟨_, h | h⟩ <;> exact absurd h (by decide))
  | a :: b :: r, _, h =>
    show comment (a :: b :: (r ++ 10 :: z)) = some m
    by_cases hc : a = 47 ∧ (b = 47 ∨ b = 42)
    · obtain ⟨rfl, rfl | rfl⟩ := hc
      · rw [comment_sl] at h ⊢
        rw [run_app _ 10 (by decide)]
        exact h
      · rw [comment_bl] at h ⊢
        cases hq : close r with
        | none => rw [hq] at h; simp at h
        | some j =>
          rw [hq] at h
          rw [close_app r _ j hq]
          exact h
    · rw [comment_no a b _ hc] at h ⊢
      exact h
theorem step_app (l z : List UInt8) (hl : l ≠ []) (h : ∀ e m, step l ≠ .bad e m) : step (l ++ 10 :: z) = step l := by
  unfold step at h ⊢
  rw [headD_app l _ hl]
  by_cases hw : white (l.headD 0) = true
  · rw [if_pos hw, if_pos hw]
  · rw [if_neg hw] at h ⊢
    rw [if_neg hw]
    cases hc : comment l with
    | none => rw [hc] at h; exact absurd rfl (h 4 0)
    | some m =>
      rw [comment_app l z hl m hc]
      cases m with
      | succ m => rfl
      | zero =>
        rw [hc] at h
        simp only at h ⊢
        cases ht : token l with
        | ok k n t => rw [token_app l z hl k n t ht]
        | bad e n => rw [ht] at h; exact absurd rfl (h e n)
/-- A scan up to a line feed. -/
theorem scan_app : ∀ (n : Nat) (l z : List UInt8) (T : List T) (N : List Note), l.length ≤ n → scan l = .ok T N → scan (l ++ 10 :: z) = (scan z).app (l.length + 1) T N := by
  intro n
  induction n with
  | zero =>
    intro l z T N hn h
    obtain rfl : l = [] := List.eq_nil_of_length_eq_zero (by omega)
    rw [scan_nil] at h
    simp only [Res.ok.injEq] at h
    obtain ⟨rfl, rfl⟩ := h
    rw [List.nil_append, scan_cons]
    rfl
  | succ n ih =>
    intro l z T N hn h
    cases l with
    | nil =>
      rw [scan_nil] at h
      simp only [Res.ok.injEq] at h
      obtain ⟨rfl, rfl⟩ := h
      rw [List.nil_append, scan_cons]
      rfl
    | cons c r =>
      rw [scan_cons] at h
      have hst := step_app (c :: r) z (by simp) (fun e m he => by rw [he] at h; simp at h)
      rw [List.cons_append] at hst ⊢
      rw [scan_cons, hst]
      cases hs : step (c :: r) with
      | skip =>
        rw [hs] at h
        obtain ⟨T', N', h1, rfl, rfl⟩ := Res.app_ok h
        simp only
        rw [ih r z T' N' (by simpa using hn) h1, Res.app_app, List.length_cons, List.nil_append, List.nil_append]
        congr 1
        omega
      | note m =>
        rw [hs] at h
        have hm := step_note hs
        obtain ⟨T', N', h1, rfl, rfl⟩ := Res.app_ok h
        simp only
        rw [← List.cons_append, List.drop_append_of_le_length hm.2.1, List.take_append_of_le_length hm.2.1,
          ih _ z T' N' (by rw [List.length_drop]; omega) h1, Res.app_app]
        congr 1
        have := hm.2.1
        rw [List.length_drop]; omega
      | tok k m t =>
        rw [hs] at h
        have hm := step_tok (by simp) hs
        obtain ⟨T', N', h1, rfl, rfl⟩ := Res.app_ok h
        simp only
        rw [← List.cons_append, List.drop_append_of_le_length hm.2.1,
          ih _ z T' N' (by rw [List.length_drop]; omega) h1, Res.app_app]
        congr 1
        have := hm.2.1
        rw [List.length_drop]; omega
      | bad e m => rw [hs] at h; simp at h
theorem scan_lf (l z : List UInt8) (T : List T) (N : List Note) (h : scan l = .ok T N) : scan (l ++ 10 :: z) = (scan z).app (l.length + 1) T N := scan_app l.length l z T N (Nat.le_refl _) h
/-! ### Bounds of a scan -/
theorem scan_bd : ∀ (n : Nat) (l : List UInt8), l.length ≤ n → (∀ e m, scan l = .bad e m → m ≤ l.length) ∧ ∀ T N, scan l = .ok T N → T.length + N.length ≤ l.length ∧ ∀ t ∈ T, t.frm ≤ l.length ∧ t.to ≤ l.length := by
  intro n
  induction n with
  | zero =>
    intro l hn
    obtain rfl : l = [] := List.eq_nil_of_length_eq_zero (by omega)
    rw [scan_nil]
    refine ⟨fun e m h => by simp at h, fun T N h => ?_⟩
    simp only [Res.ok.injEq] at h
    obtain ⟨rfl, rfl⟩ := h
    simp
  | succ n ih =>
    intro l hn
    cases l with
    | nil =>
      rw [scan_nil]
      refine ⟨fun e m h => by simp at h, fun T N h => ?_⟩
      simp only [Res.ok.injEq] at h
      obtain ⟨rfl, rfl⟩ := h
      simp
    | cons c r =>
      rw [scan_cons]
      have key : ∀ (m : Nat) (ts : List T) (ns : List Note), 1 ≤ m → m ≤ (c :: r).length → ts.length + ns.length ≤ m → (∀ t ∈ ts, t.frm ≤ (c :: r).length ∧ t.to ≤ (c :: r).length) →
          (∀ e q, (scan ((c :: r).drop m)).app m ts ns = .bad e q → q ≤ (c :: r).length) ∧ ∀ T N, (scan ((c :: r).drop m)).app m ts ns = .ok T N → T.length + N.length ≤ (c :: r).length ∧ ∀ t ∈ T, t.frm ≤ (c :: r).length ∧ t.to ≤ (c :: r).length := by
        intro m ts ns h1 h2 h3 h4
        have hl : ((c :: r).drop m).length = (c :: r).length - m := List.length_drop
        obtain ⟨i1, i2⟩ := ih ((c :: r).drop m) (by rw [hl]; omega)
        refine ⟨fun e q h => ?_, fun T N h => ?_⟩
        · obtain ⟨q', h5, rfl⟩ := Res.app_bad h
          have := i1 e q' h5
          omega
        · obtain ⟨T', N', h5, rfl, rfl⟩ := Res.app_ok h
          obtain ⟨j1, j2⟩ := i2 T' N' h5
          refine ⟨by simp only [List.length_append, List.length_map]; omega, fun t ht => ?_⟩
          rcases List.mem_append.1 ht with ht | ht
          · exact h4 t ht
          · obtain ⟨u, hu, rfl⟩ := List.mem_map.1 ht
            have := j2 u hu
            simp only [Jsn.T.sh]
            omega
      cases hs : step (c :: r) with
      | skip => exact key 1 [] [] (by omega) (by simp) (by simp) (by simp)
      | note m =>
        have hm := step_note hs
        exact key m [] [_] (by omega) hm.2.1 (by simp; omega) (by simp)
      | tok k m t =>
        have hm := step_tok (by simp) hs
        exact key m [_] [] hm.1 hm.2.1 (by simp; omega) (by simp; exact hm.2.1)
      | bad e m =>
        refine ⟨fun e' m' h => ?_, fun T N h => by simp at h⟩
        simp only [Res.bad.injEq] at h
        obtain ⟨rfl, rfl⟩ := h
        unfold step at hs
        split at hs
        · simp at hs
        · split at hs
          · simp only [Step.bad.injEq] at hs; omega
          · cases ht : token (c :: r) with
            | ok x y z => rw [ht] at hs; simp [tstep] at hs
            | bad x y =>
              rw [ht] at hs
              simp only [tstep, Step.bad.injEq] at hs
              have := token_bad (c :: r) (by simp) x y ht
              omega
          · simp at hs
/-! ### Between the tokens -/
/-- What is left of a scan behind p bytes. -/
def Cov (L : List UInt8) (p : Nat) (ts : List T) (ns : List Note) : Prop := ∃ T' N', scan (L.drop p) = .ok T' N' ∧ ts = T'.map (T.sh p) ∧ ns = N'.map (Note.sh p)
theorem cov_next {L : List UInt8} {p m : Nat} {ts T' : List T} {ns N' : List Note} (h : (scan ((L.drop p).drop m)).app m ts ns = .ok T' N') : ∃ T2 N2, Cov L (p + m) T2 N2 ∧ T'.map (T.sh p) = ts.map (T.sh p) ++ T2 ∧ N'.map (Note.sh p) = ns.map (Note.sh p) ++ N2 := by
  obtain ⟨T2, N2, h1, rfl, rfl⟩ := Res.app_ok h
  refine ⟨T2.map (T.sh (p + m)), N2.map (Note.sh (p + m)), ⟨T2, N2, by rw [← List.drop_drop]; exact h1, rfl, rfl⟩, ?_, ?_⟩
  · rw [List.map_append, T.sh_sh]
  · rw [List.map_append, Note.sh_sh]
theorem cov_ge {L : List UInt8} {p : Nat} {ts : List T} {ns : List Note} (h : Cov L p ts ns) : (∀ t ∈ ts, p ≤ t.frm) ∧ ∀ n ∈ ns, p ≤ n.frm := by
  obtain ⟨T', N', _, rfl, rfl⟩ := h
  refine ⟨fun t ht => ?_, fun n hn => ?_⟩
  · obtain ⟨u, _, rfl⟩ := List.mem_map.1 ht
    simp [T.sh]
  · obtain ⟨u, _, rfl⟩ := List.mem_map.1 hn
    simp [Note.sh]
theorem cov_end {L : List UInt8} {p : Nat} {ts : List T} {ns : List Note} (h : Cov L p ts ns) (hp : L.length ≤ p) : ts = [] ∧ ns = [] := by
  obtain ⟨T', N', h1, rfl, rfl⟩ := h
  rw [List.drop_of_length_le hp, scan_nil] at h1
  simp only [Res.ok.injEq] at h1
  obtain ⟨rfl, rfl⟩ := h1
  exact ⟨rfl, rfl⟩
theorem cov_round {L : List UInt8} {p : Nat} {ts : List T} {ns : List Note} (h : Cov L p ts ns) (hp : p < L.length) :
    (white L[p] = true ∧ Cov L (p + 1) ts ns) ∨
    (∃ m t2 k x, 1 ≤ m ∧ p + m ≤ L.length ∧ ts = ⟨k, p, p + m, x⟩ :: t2 ∧ Cov L (p + m) t2 ns) ∨
    ∃ m n2, 1 ≤ m ∧ p + m ≤ L.length ∧ ns = ⟨p, p + m, (L.drop p).take m⟩ :: n2 ∧ Cov L (p + m) ts n2 := by
  obtain ⟨T', N', h1, rfl, rfl⟩ := h
  have hd : L.drop p = L[p] :: L.drop (p + 1) := List.drop_eq_getElem_cons hp
  have hlen : (L.drop p).length = L.length - p := List.length_drop
  rw [hd, scan_cons, ← hd] at h1
  have hne : L.drop p ≠ [] := by intro e; rw [e] at hlen; simp at hlen; omega
  cases hs : step (L.drop p) with
  | skip =>
    rw [hs] at h1
    left
    refine ⟨?_, ?_⟩
    · unfold step at hs
      split at hs
      · rename_i hw
        rw [hd] at hw
        exact hw
      · split at hs
        · simp at hs
        · cases ht : token (L.drop p) <;> rw [ht] at hs <;> simp [tstep] at hs
        · simp at hs
    · have h2 : (scan ((L.drop p).drop 1)).app 1 [] [] = .ok T' N' := by rw [List.drop_drop]; exact h1
      obtain ⟨T2, N2, hc, e1, e2⟩ := cov_next h2
      rw [e1, e2]
      exact hc
  | note m =>
    rw [hs] at h1
    have hm := step_note hs
    right; right
    obtain ⟨T2, N2, hc, e1, e2⟩ := cov_next h1
    refine ⟨m, N2, by omega, by omega, ?_, ?_⟩
    · rw [e2]; simp [Note.sh, Nat.add_comm]
    · rw [e1]; exact hc
  | tok k m t =>
    rw [hs] at h1
    have hm := step_tok hne hs
    right; left
    obtain ⟨T2, N2, hc, e1, e2⟩ := cov_next h1
    refine ⟨m, T2, k, t, hm.1, by omega, ?_, ?_⟩
    · rw [e1]; simp [T.sh, Nat.add_comm]
    · rw [e2]; exact hc
  | bad e m => rw [hs] at h1; simp at h1
theorem cov_start {L : List UInt8} {T : List T} {N : List Note} (h : scan L = .ok T N) : Cov L 0 T N := ⟨T, N, by rw [List.drop_zero]; exact h, (sh0 T).symm, (nsh0 N).symm⟩
end Jsn
