/-
  The plain law of jsonlex, second part: one round of a scan; bounds. No program stands in it.
-/
import Derived.Test.YtjfkiomegacpeaaDoorJs0
namespace Jsn
theorem run_pos (p : UInt8 → Bool) (l : List UInt8) (h : p (l.headD 0) = true) (hl : l ≠ []) : 1 ≤ run p l := by
  cases l with
  | nil => exact absurd rfl hl
  | cons c r =>
    rw [List.headD_cons] at h
    rw [run_cons, if_pos h]
    omega
/-- Behind m bytes text can be cut. -/
def Cut (l : List UInt8) (m : Nat) : Prop := (∃ c, l[m - 1]? = some c ∧ c.toNat < 128) ∨ l.drop m = [] ∨ ∃ r, l.drop m = 10 :: r
theorem seq_bd (l : List UInt8) (hl : l ≠ []) (hs : seqc (l.headD 0) = true) (k n : Nat) (t : List UInt8) (h : sequence l = .ok k n t) : 1 ≤ n ∧ n ≤ l.length ∧ t.length ≤ n ∧ 1 ≤ k ∧ k ≤ 4 ∧ Cut l n := by
  have h1 := run_pos seqc l hs hl
  have h2 := run_le seqc l
  have hn : n = run seqc l ∧ t = l.take (run seqc l) ∧ 1 ≤ k ∧ k ≤ 4 := by
    unfold sequence at h
    repeat' split at h
    all_goals first
      | (simp only [Tok.ok.injEq] at h; obtain ⟨rfl, rfl, rfl⟩ := h; exact ⟨rfl, rfl, by omega, by omega⟩)
      | simp at h
  obtain ⟨rfl, rfl, h3, h4⟩ := hn
  refine ⟨h1, h2, by rw [List.length_take]; omega, h3, h4, Or.inl ?_⟩
  have hlt : run seqc l - 1 < l.length := by omega
  refine ⟨l[run seqc l - 1], List.getElem?_eq_getElem hlt, seqc_ascii _ (run_all seqc l _ ?_)⟩
  have : (l.take (run seqc l))[run seqc l - 1]? = some l[run seqc l - 1] := by
    rw [List.getElem?_take, if_pos (by omega), List.getElem?_eq_getElem hlt]
  exact List.mem_of_getElem? this
theorem token_bd (l : List UInt8) (hl : l ≠ []) (k n : Nat) (t : List UInt8) (h : token l = .ok k n t) : 1 ≤ n ∧ n ≤ l.length ∧ t.length ≤ n ∧ 1 ≤ k ∧ k ≤ 4 ∧ Cut l n := by
  have hlen : 1 ≤ l.length := by cases l; exact absurd rfl hl; simp
  unfold token at h
  split at h
  · rename_i hp
    simp only [Tok.ok.injEq] at h
    obtain ⟨rfl, rfl, rfl⟩ := h
    refine ⟨Nat.le_refl _, hlen, by rw [List.length_take]; omega, by omega, by omega, Or.inl ?_⟩
    cases l with
    | nil => exact absurd rfl hl
    | cons c r =>
      refine ⟨c, rfl, ?_⟩
      simp only [punct, List.headD_cons, List.contains_iff_mem, List.mem_cons, List.not_mem_nil, or_false] at hp
      rcases hp with rfl | rfl | rfl | rfl | rfl | rfl <;> decide
  · split at h
    · rename_i h34
      cases hq : quo l.length 1 [] (l.drop 1) with
      | ok t2 n2 =>
        rw [hq] at h
        simp only [qtok, Tok.ok.injEq] at h
        obtain ⟨rfl, rfl, rfl⟩ := h
        obtain ⟨m, h1, h2, h3, h4⟩ := quo_bd _ _ _ _ _ _ (by simp) hq
        rw [List.length_drop] at h2
        rw [List.getElem?_drop] at h3
        refine ⟨by omega, by omega, by omega, by omega, by omega, Or.inl ⟨34, ?_, by decide⟩⟩
        rw [h1, show 1 + m + 1 - 1 = 1 + m by omega]
        exact h3
      | bad e n2 => rw [hq] at h; simp [qtok] at h
    · split at h
      · rename_i hs
        exact seq_bd l hl hs k n t h
      · simp at h
theorem token_bad (l : List UInt8) (hl : l ≠ []) (e n : Nat) (h : token l = .bad e n) : n ≤ l.length := by
  have hlen : 1 ≤ l.length := by cases l; exact absurd rfl hl; simp
  unfold token at h
  split at h
  · simp at h
  · split at h
    · cases hq : quo l.length 1 [] (l.drop 1) with
      | ok t2 n2 => rw [hq] at h; simp [qtok] at h
      | bad e2 n2 =>
        rw [hq] at h
        simp only [qtok, Tok.bad.injEq] at h
        obtain ⟨rfl, rfl⟩ := h
        have := quo_bad _ _ _ _ _ _ hq
        rw [List.length_drop] at this
        omega
    · split at h
      · unfold sequence at h
        repeat' split at h
        all_goals first
          | (simp only [Tok.bad.injEq] at h; omega)
          | simp at h
      · simp only [Tok.bad.injEq] at h; omega
theorem comment_bd (l : List UInt8) (m : Nat) (h : comment l = some (m + 1)) : m + 1 ≤ l.length ∧ 2 ≤ m + 1 ∧ Cut l (m + 1) := by
  unfold comment at h
  split at h
  · rename_i r
    simp only [Option.some.injEq] at h
    have h1 := run_le (fun c => c != 10) r
    refine ⟨by simp; omega, by omega, Or.inr ?_⟩
    rw [show m + 1 = run (fun c => c != 10) r + 1 + 1 by omega, List.drop_succ_cons, List.drop_succ_cons]
    cases hd : r.drop (run (fun c => c != 10) r) with
    | nil => exact Or.inl rfl
    | cons c r2 =>
      right
      have hc : (c != 10) = false := by
        clear h h1
        induction r with
        | nil => simp at hd
        | cons a r ih =>
          rw [run_cons] at hd
          by_cases ha : (a != 10) = true
          · rw [if_pos ha, List.drop_succ_cons] at hd
            exact ih hd
          · rw [if_neg ha, List.drop_zero] at hd
            injection hd with h1 h2
            subst h1
            exact Bool.eq_false_iff.2 ha
      rw [bne_eq_false_iff_eq] at hc
      subst hc
      exact ⟨r2, rfl⟩
  · rename_i r
    cases hc : close r with
    | none => rw [hc] at h; simp at h
    | some k =>
      rw [hc] at h
      simp only [Option.map_some, Option.some.injEq] at h
      obtain ⟨h1, h2⟩ := close_bd r k hc
      refine ⟨by simp; omega, by omega, Or.inl ⟨47, ?_, by decide⟩⟩
      rw [show m + 1 - 1 = k + 1 + 1 + 1 by omega, List.getElem?_cons_succ, List.getElem?_cons_succ]
      exact h2
  · simp at h
theorem step_note {l : List UInt8} {m : Nat} (h : step l = .note m) : 2 ≤ m ∧ m ≤ l.length ∧ comment l = some m ∧ white (l.headD 0) = false ∧ Cut l m := by
  unfold step at h
  split at h
  · simp at h
  · rename_i hw
    split at h
    · simp at h
    · cases ht : token l <;> rw [ht] at h <;> simp [tstep] at h
    · rename_i k hc
      simp only [Step.note.injEq] at h
      subst h
      have := comment_bd l k hc
      exact ⟨this.2.1, this.1, hc, Bool.eq_false_iff.2 hw, this.2.2⟩
theorem step_tok {l : List UInt8} (hl : l ≠ []) {k m : Nat} {t : List UInt8} (h : step l = .tok k m t) : 1 ≤ m ∧ m ≤ l.length ∧ token l = .ok k m t ∧ comment l = some 0 ∧ white (l.headD 0) = false := by
  unfold step at h
  split at h
  · simp at h
  · rename_i hw
    split at h
    · simp at h
    · rename_i hc
      cases ht : token l with
      | ok k2 m2 t2 =>
        rw [ht] at h
        simp only [tstep, Step.tok.injEq] at h
        obtain ⟨rfl, rfl, rfl⟩ := h
        have := token_bd l hl _ _ _ ht
        exact ⟨this.1, this.2.1, rfl, hc, Bool.eq_false_iff.2 hw⟩
      | bad e m2 => rw [ht] at h; simp [tstep] at h
    · simp at h
theorem step_bad {l : List UInt8} (hl : l ≠ []) {e m : Nat} (h : step l = .bad e m) : m ≤ l.length := by
  unfold step at h
  split at h
  · simp at h
  · split at h
    · simp only [Step.bad.injEq] at h; omega
    · cases ht : token l with
      | ok k2 m2 t2 => rw [ht] at h; simp [tstep] at h
      | bad e2 m2 =>
        rw [ht] at h
        simp only [tstep, Step.bad.injEq] at h
        obtain ⟨rfl, rfl⟩ := h
        exact token_bad l hl _ _ ht
    · simp at h
theorem scanF_fuel : ∀ (f g : Nat) (l : List UInt8), l.length ≤ f → l.length ≤ g → scanF f l = scanF g l
  | 0, 0, _, _, _ => rfl
  | 0, _ + 1, [], _, _ => rfl
  | _ + 1, 0, [], _, _ => rfl
  | _ + 1, _ + 1, [], _, _ => rfl
  | 0, _ + 1, _ :: _, h, _ => by simp at h
  | _ + 1, 0, _ :: _, _, h => by simp at h
  | f + 1, g + 1, c :: r, hf, hg => by
    simp only [List.length_cons] at hf hg
    unfold scanF
    cases hs : step (c :: r) with
    | skip => simp only; rw [scanF_fuel f g r (by omega) (by omega)]
    | note m =>
      have := step_note hs
      simp only
      rw [scanF_fuel f g _ (by rw [List.length_drop, List.length_cons]; omega) (by rw [List.length_drop, List.length_cons]; omega)]
    | tok k m t =>
      have := step_tok (by simp) hs
      simp only
      rw [scanF_fuel f g _ (by rw [List.length_drop, List.length_cons]; omega) (by rw [List.length_drop, List.length_cons]; omega)]
    | bad e m => rfl
theorem scan_nil : scan [] = .ok [] [] := rfl
theorem scan_cons (c : UInt8) (r : List UInt8) : scan (c :: r) = match step (c :: r) with
    | .skip => (scan r).app 1 [] []
    | .note m => (scan ((c :: r).drop m)).app m [] [⟨0, m, (c :: r).take m⟩]
    | .tok k m t => (scan ((c :: r).drop m)).app m [⟨k, 0, m, t⟩] []
    | .bad e m => .bad e m := by
  unfold scan
  rw [List.length_cons]
  conv => lhs; unfold scanF
  cases hs : step (c :: r) with
  | skip => rfl
  | note m =>
    have := step_note hs
    rw [List.length_cons] at this
    simp only
    rw [scanF_fuel r.length _ _ (by rw [List.length_drop, List.length_cons]; omega) (Nat.le_refl _)]
  | tok k m t =>
    have := step_tok (by simp) hs
    rw [List.length_cons] at this
    simp only
    rw [scanF_fuel r.length _ _ (by rw [List.length_drop, List.length_cons]; omega) (Nat.le_refl _)]
  | bad e m => rfl
theorem T.sh_sh (a b : Nat) : ∀ l : List T, (l.map (T.sh a)).map (T.sh b) = l.map (T.sh (b + a)) := fun l => by
  rw [List.map_map]
  exact List.map_congr_left fun t _ => by simp [T.sh, Nat.add_assoc, Nat.add_comm a b]
theorem Note.sh_sh (a b : Nat) : ∀ l : List Note, (l.map (Note.sh a)).map (Note.sh b) = l.map (Note.sh (b + a)) := fun l => by
  rw [List.map_map]
  exact List.map_congr_left fun t _ => by simp [Note.sh, Nat.add_assoc, Nat.add_comm a b]
theorem Res.app_app (r : Res) (p q : Nat) (ts ts' : List T) (ns ns' : List Note) : (r.app p ts ns).app q ts' ns' = r.app (q + p) (ts' ++ ts.map (T.sh q)) (ns' ++ ns.map (Note.sh q)) := by
  cases r with
  | ok T1 N1 => simp only [Res.app, List.map_append, Jsn.T.sh_sh, Jsn.Note.sh_sh, List.append_assoc]
  | bad e n => simp only [Res.app, Nat.add_assoc]
theorem Res.app_ok {r : Res} {p : Nat} {ts T : List T} {ns N : List Note} (h : r.app p ts ns = .ok T N) : ∃ T' N', r = .ok T' N' ∧ T = ts ++ T'.map (Jsn.T.sh p) ∧ N = ns ++ N'.map (Jsn.Note.sh p) := by
  cases r with
  | ok T' N' =>
    simp only [Res.app, Res.ok.injEq] at h
    exact ⟨T', N', rfl, h.1.symm, h.2.symm⟩
  | bad e n => simp [Res.app] at h
theorem Res.app_bad {r : Res} {p : Nat} {ts : List T} {ns : List Note} {e n : Nat} (h : r.app p ts ns = .bad e n) : ∃ n', r = .bad e n' ∧ n = p + n' := by
  cases r with
  | ok T' N' => simp [Res.app] at h
  | bad e' n' =>
    simp only [Res.app, Res.bad.injEq] at h
    exact ⟨n', by rw [h.1], h.2.symm⟩
theorem sh0 : ∀ l : List T, l.map (T.sh 0) = l := fun l => by
  conv => rhs; rw [← List.map_id l]
  exact List.map_congr_left fun t _ => rfl
theorem nsh0 : ∀ l : List Note, l.map (Note.sh 0) = l := fun l => by
  conv => rhs; rw [← List.map_id l]
  exact List.map_congr_left fun t _ => rfl
theorem scan_app0 (L : List UInt8) : scan L = (scan (L.drop 0)).app 0 [] [] := by
  rw [List.drop_zero]
  cases scan L with
  | ok T N => simp [Res.app, sh0, nsh0]
  | bad e n => simp [Res.app]
/-- One round of a scan at an offset. -/
theorem scan_at (p : Nat) (ts : List T) (ns : List Note) (L : List UInt8) (c : UInt8) (h : L.drop p = c :: L.drop (p + 1)) :
    (scan (L.drop p)).app p ts ns = match step (L.drop p) with
      | .skip => (scan (L.drop (p + 1))).app (p + 1) ts ns
      | .note m => (scan (L.drop (p + m))).app (p + m) ts (ns ++ [⟨p, p + m, (L.drop p).take m⟩])
      | .tok k m t => (scan (L.drop (p + m))).app (p + m) (ts ++ [⟨k, p, p + m, t⟩]) ns
      | .bad e m => .bad e (p + m) := by
  rw [h, scan_cons, ← h]
  cases step (L.drop p) with
  | skip => simp only; rw [Res.app_app]; simp
  | note m => simp only; rw [Res.app_app, List.drop_drop]; simp [Note.sh, Nat.add_comm]
  | tok k m t => simp only; rw [Res.app_app, List.drop_drop]; simp [T.sh, Nat.add_comm]
  | bad e m => rfl
theorem scan_at_end (p : Nat) (ts : List T) (ns : List Note) (L : List UInt8) (h : L.drop p = []) : (scan (L.drop p)).app p ts ns = .ok ts ns := by
  rw [h, scan_nil]
  simp [Res.app]
end Jsn
