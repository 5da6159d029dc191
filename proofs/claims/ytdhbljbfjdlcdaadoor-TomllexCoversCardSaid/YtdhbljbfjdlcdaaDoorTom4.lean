/-
  The plain law of tomllex, fifth part: a scan goes on behind a line end as if it began there. No program stands in it.
-/
import Derived.Test.YtdhbljbfjdlcdaaDoorTom3
namespace Tom
theorem cmt_hash (r : List UInt8) : 1 ≤ (cmt (35 :: r)).1 := by
  have e : cmt (35 :: r) = ((cmt r).1 + 1, (cmt r).2) := by
    show (if 0 < lineEnd (35 :: r) then _ else if control 35 then _ else _) = _
    rfl
  rw [e]
  simp
def T.sh (d : Nat) (t : T) : T := ⟨t.kind, t.frm + d, t.to + d, t.text⟩
def Note.sh (d : Nat) (t : Note) : Note := ⟨t.frm + d, t.to + d, t.text⟩
theorem T.sh_sh (a b : Nat) : ∀ l : List T, (l.map (T.sh a)).map (T.sh b) = l.map (T.sh (b + a)) := fun l => by
  rw [List.map_map]
  exact List.map_congr_left fun t _ => by simp [T.sh, Nat.add_assoc, Nat.add_comm a b]
theorem Note.sh_sh (a b : Nat) : ∀ l : List Note, (l.map (Note.sh a)).map (Note.sh b) = l.map (Note.sh (b + a)) := fun l => by
  rw [List.map_map]
  exact List.map_congr_left fun t _ => by simp [Note.sh, Nat.add_assoc, Nat.add_comm a b]
def Res.app (p : Nat) (ts : List T) (ns : List Note) : Res → Res
  | .ok T N => .ok (ts ++ T.map (Tom.T.sh p)) (ns ++ N.map (Tom.Note.sh p))
  | .bad n => .bad (p + n)
theorem Res.app_app (r : Res) (p q : Nat) (ts ts' : List T) (ns ns' : List Note) : (r.app p ts ns).app q ts' ns' = r.app (q + p) (ts' ++ ts.map (T.sh q)) (ns' ++ ns.map (Note.sh q)) := by
  cases r with
  | ok T1 N1 => simp only [Res.app, List.map_append, Tom.T.sh_sh, Tom.Note.sh_sh, List.append_assoc]
  | bad n => simp only [Res.app, Nat.add_assoc]
inductive Step where
  | skip (m : Nat)
  | note (m : Nat)
  | tok (k m : Nat) (t : List UInt8)
  | bad (m : Nat)
def step : List UInt8 → Step
  | [] => .bad 0
  | c :: r =>
    if 0 < run blank (c :: r) then .skip (run blank (c :: r))
    else if c == 35 then if (cmt (c :: r)).2 then .note (cmt (c :: r)).1 else .bad (cmt (c :: r)).1
    else match token (c :: r) with
      | .ok k n t => .tok k n t
      | .bad n => .bad n
theorem scanLoop_step (f p : Nat) (ts : List T) (ns : List Note) (l : List UInt8) (hl : l ≠ []) : scanLoop (f + 1) p ts ns l = match step l with
    | .skip m => scanLoop f (p + m) ts ns (l.drop m)
    | .note m => scanLoop f (p + m) ts (ns ++ [⟨p, p + m, l.take m⟩]) (l.drop m)
    | .tok k m t => scanLoop f (p + m) (ts ++ [⟨k, p, p + m, t⟩]) ns (l.drop m)
    | .bad m => .bad (p + m) := by
  cases l with
  | nil => exact absurd rfl hl
  | cons c r =>
    have e : scanLoop (f + 1) p ts ns (c :: r) = if 0 < run blank (c :: r) then scanLoop f (p + run blank (c :: r)) ts ns ((c :: r).drop (run blank (c :: r)))
      else if c == 35 then
        if (cmt (c :: r)).2 then scanLoop f (p + (cmt (c :: r)).1) ts (ns ++ [⟨p, p + (cmt (c :: r)).1, (c :: r).take (cmt (c :: r)).1⟩]) ((c :: r).drop (cmt (c :: r)).1)
        else .bad (p + (cmt (c :: r)).1)
      else match token (c :: r) with
        | .ok k n t => scanLoop f (p + n) (ts ++ [⟨k, p, p + n, t⟩]) ns ((c :: r).drop n)
        | .bad n => .bad (p + n) := rfl
    rw [e]
    unfold step
    simp only
    by_cases h1 : 0 < run blank (c :: r)
    · rw [if_pos h1, if_pos h1]
    · rw [if_neg h1, if_neg h1]
      by_cases h2 : (c == 35) = true
      · rw [if_pos h2, if_pos h2]
        by_cases h3 : (cmt (c :: r)).2 = true
        · rw [if_pos h3, if_pos h3]
        · rw [if_neg h3, if_neg h3]
      · rw [if_neg h2, if_neg h2]
        cases token (c :: r) <;> rfl
theorem step_cons (c : UInt8) (r : List UInt8) : step (c :: r) = if 0 < run blank (c :: r) then .skip (run blank (c :: r))
    else if c == 35 then if (cmt (c :: r)).2 then .note (cmt (c :: r)).1 else .bad (cmt (c :: r)).1
    else match token (c :: r) with
      | .ok k n t => .tok k n t
      | .bad n => .bad n := rfl
theorem step_skip {l : List UInt8} {m : Nat} (h : step l = .skip m) : 1 ≤ m ∧ m ≤ l.length ∧ m = run blank l := by
  cases l with
  | nil => simp [step] at h
  | cons c r =>
    rw [step_cons] at h
    split at h
    · simp only [Step.skip.injEq] at h
      have := run_le blank (c :: r)
      omega
    · split at h
      · split at h <;> simp at h
      · split at h <;> simp at h
theorem step_note {l : List UInt8} {m : Nat} (h : step l = .note m) : 1 ≤ m ∧ m ≤ l.length ∧ m = (cmt l).1 ∧ (cmt l).2 = true ∧ ∃ r, l = 35 :: r := by
  cases l with
  | nil => simp [step] at h
  | cons c r =>
    rw [step_cons] at h
    split at h
    · simp at h
    · split at h
      · rename_i h2
        obtain rfl : c = 35 := by simpa using h2
        split at h
        · rename_i h3
          simp only [Step.note.injEq] at h
          have := cmt_hash r
          have := cmt_le (35 :: r)
          exact ⟨by omega, by omega, by omega, h3, r, rfl⟩
        · simp at h
      · split at h <;> simp at h
theorem step_tok {l : List UInt8} {k m : Nat} {t : List UInt8} (h : step l = .tok k m t) : 1 ≤ m ∧ m ≤ l.length ∧ token l = .ok k m t := by
  cases l with
  | nil => simp [step] at h
  | cons c r =>
    rw [step_cons] at h
    split at h
    · simp at h
    · split at h
      · split at h <;> simp at h
      · split at h
        · rename_i he
          simp only [Step.tok.injEq] at h
          obtain ⟨rfl, rfl, rfl⟩ := h
          have := token_bd _ _ _ _ he
          exact ⟨by omega, by omega, he⟩
        · simp at h
theorem step_app {y y' : List UInt8} (A : Alike y y') (l : List UInt8) (hl : l ≠ []) (m : Nat) :
    (step (l ++ y) = .skip m → m ≤ l.length ∧ step (l ++ y') = .skip m) ∧ (step (l ++ y) = .note m → m ≤ l.length ∧ step (l ++ y') = .note m) ∧
    (∀ k t, step (l ++ y) = .tok k m t → m ≤ l.length → step (l ++ y') = .tok k m t) := by
  have hy := A.left
  have hy' := A.right
  cases l with
  | nil => exact absurd rfl hl
  | cons c r =>
    have b1 : run blank (c :: (r ++ y)) = run blank (c :: r) := blank_stop hy (c :: r)
    have b2 : run blank (c :: (r ++ y')) = run blank (c :: r) := blank_stop hy' (c :: r)
    have hr := run_le blank (c :: r)
    simp only [List.cons_append]
    rw [step_cons, step_cons, b1, b2]
    by_cases h1 : 0 < run blank (c :: r)
    · rw [if_pos h1, if_pos h1]
      refine ⟨fun h => ?_, fun h => ?_, fun k t h => ?_⟩
      · simp only [Step.skip.injEq] at h
        exact ⟨by omega, by rw [h]⟩
      · simp at h
      · simp at h
    · rw [if_neg h1, if_neg h1]
      by_cases h2 : (c == 35) = true
      · rw [if_pos h2, if_pos h2]
        by_cases h3 : (cmt (c :: (r ++ y))).2 = true
        · have hc := cmt_app A (c :: r) h3
          simp only [List.cons_append] at hc
          rw [if_pos h3, hc.1, if_pos h3]
          refine ⟨fun h => ?_, fun h => ?_, fun k t h => ?_⟩
          · simp at h
          · simp only [Step.note.injEq] at h
            exact ⟨by omega, by rw [h]⟩
          · simp at h
        · rw [if_neg h3]
          refine ⟨fun h => ?_, fun h => ?_, fun k t h => ?_⟩ <;> simp at h
      · rw [if_neg h2, if_neg h2]
        refine ⟨fun h => ?_, fun h => ?_, fun k t h hm => ?_⟩
        · split at h <;> simp at h
        · split at h <;> simp at h
        · split at h
          · rename_i he
            simp only [Step.tok.injEq] at h
            obtain ⟨rfl, rfl, rfl⟩ := h
            have := token_app hy hy' (c :: r) _ _ _ he hm
            rw [List.cons_append] at this
            rw [this]
          · simp at h
theorem scanLoop_app' : ∀ (n f g p : Nat) (ts : List T) (ns : List Note) (l : List UInt8), l.length ≤ n → l.length < f → l.length < g → scanLoop f p ts ns l = (scanLoop g 0 [] [] l).app p ts ns
  | _, 0, _, _, _, _, _, _, h, _ => by omega
  | _, _ + 1, 0, _, _, _, _, _, _, h => by omega
  | _, f + 1, g + 1, p, ts, ns, [], _, _, _ => by simp [scanLoop, Res.app, T.sh]
  | 0, _ + 1, _ + 1, _, _, _, c :: r, hn, _, _ => by simp at hn
  | n + 1, f + 1, g + 1, p, ts, ns, c :: r, hn, hf, hg => by
    rw [scanLoop_step f p ts ns (c :: r) (by simp), scanLoop_step g 0 [] [] (c :: r) (by simp)]
    have hl1 : 1 ≤ (c :: r).length := by simp
    have ih := fun m (hm : 1 ≤ m) (q : Nat) (ts' : List T) (ns' : List Note) => scanLoop_app' n f f q ts' ns' ((c :: r).drop m) (by rw [List.length_drop]; omega) (by rw [List.length_drop]; omega) (by rw [List.length_drop]; omega)
    have ih2 := fun m (hm : 1 ≤ m) (q : Nat) (ts' : List T) (ns' : List Note) => scanLoop_app' n g f q ts' ns' ((c :: r).drop m) (by rw [List.length_drop]; omega) (by rw [List.length_drop]; omega) (by rw [List.length_drop]; omega)
    cases hs : step (c :: r) with
    | skip m =>
      have hb := step_skip hs
      simp only
      rw [ih m hb.1 (p + m), ih2 m hb.1 (0 + m), Res.app_app]
      simp
    | note m =>
      have hb := step_note hs
      simp only
      rw [ih m hb.1 (p + m), ih2 m hb.1 (0 + m), Res.app_app]
      simp [Note.sh, Nat.add_comm]
    | tok k m t =>
      have hb := step_tok hs
      simp only
      rw [ih m hb.1 (p + m), ih2 m hb.1 (0 + m), Res.app_app]
      simp [T.sh, Nat.add_comm]
    | bad m => simp [Res.app]
theorem scanLoop_app (f g p : Nat) (ts : List T) (ns : List Note) (l : List UInt8) (hf : l.length < f) (hg : l.length < g) : scanLoop f p ts ns l = (scanLoop g 0 [] [] l).app p ts ns :=
  scanLoop_app' l.length f g p ts ns l (Nat.le_refl _) hf hg
theorem sh0 : ∀ l : List T, l.map (T.sh 0) = l := fun l => by
  conv => rhs; rw [← List.map_id l]
  exact List.map_congr_left fun t _ => rfl
theorem nsh0 : ∀ l : List Note, l.map (Note.sh 0) = l := fun l => by
  conv => rhs; rw [← List.map_id l]
  exact List.map_congr_left fun t _ => rfl
theorem scan_nil : scan [] = .ok [⟨8, 0, 0, []⟩] [] := rfl
theorem scan_step (l : List UInt8) (hl : l ≠ []) : scan l = match step l with
    | .skip m => (scan (l.drop m)).app m [] []
    | .note m => (scan (l.drop m)).app m [] [⟨0, m, l.take m⟩]
    | .tok k m t => (scan (l.drop m)).app m [⟨k, 0, m, t⟩] []
    | .bad m => .bad m := by
  unfold scan
  rw [scanLoop_step _ 0 [] [] l hl]
  cases hs : step l with
  | skip m =>
    have hb := step_skip hs
    simp only
    rw [scanLoop_app _ ((l.drop m).length + 1) _ _ _ _ (by rw [List.length_drop]; omega) (by omega)]
    simp
  | note m =>
    have hb := step_note hs
    simp only
    rw [scanLoop_app _ ((l.drop m).length + 1) _ _ _ _ (by rw [List.length_drop]; omega) (by omega)]
    simp
  | tok k m t =>
    have hb := step_tok hs
    simp only
    rw [scanLoop_app _ ((l.drop m).length + 1) _ _ _ _ (by rw [List.length_drop]; omega) (by omega)]
    simp
  | bad m => simp
theorem Res.app_ok {r : Res} {p : Nat} {ts T : List T} {ns N : List Note} (h : r.app p ts ns = .ok T N) : ∃ T' N', r = .ok T' N' ∧ T = ts ++ T'.map (Tom.T.sh p) ∧ N = ns ++ N'.map (Tom.Note.sh p) := by
  cases r with
  | ok T' N' =>
    simp only [Res.app, Res.ok.injEq] at h
    exact ⟨T', N', rfl, h.1.symm, h.2.symm⟩
  | bad n => simp [Res.app] at h
theorem drop_app3 (l y : List UInt8) (m : Nat) (h : m ≤ l.length) : (l ++ y).drop m = l.drop m ++ y := List.drop_append_of_le_length h
/-- The scan of a source with a line end behind it: the source's own without its end, then what comes of the line end. -/
theorem scan_join : ∀ (n : Nat) (l : List UInt8) (T : List T) (N : List Note), l.length ≤ n → scan l = .ok T N → ∃ T0, T = T0 ++ [⟨8, l.length, l.length, []⟩] ∧ ∀ z, scan (l ++ 10 :: z) = (scan (10 :: z)).app l.length T0 N
  | n, [], T, N, _, h => by
    rw [scan_nil] at h
    simp only [Res.ok.injEq] at h
    obtain ⟨rfl, rfl⟩ := h
    refine ⟨[], rfl, fun z => ?_⟩
    cases hz : scan (10 :: z) with
    | ok T1 N1 => simp [Res.app, hz, sh0, nsh0]
    | bad m => simp [Res.app, hz]
  | 0, c :: r, _, _, hn, _ => by simp at hn
  | n + 1, c :: r, T, N, hn, h => by
    have A : ∀ z, Alike [] (10 :: z) := fun z => Or.inl ⟨rfl, z, rfl⟩
    have hst := fun z => step_app (A z) (c :: r) (by simp)
    rw [scan_step _ (by simp)] at h
    cases hs : step (c :: r) with
    | bad m => rw [hs] at h; simp at h
    | skip m =>
      rw [hs] at h
      simp only at h
      obtain ⟨T', N', h', rfl, rfl⟩ := Res.app_ok h
      have hb := step_skip hs
      obtain ⟨T0, rfl, hz⟩ := scan_join n _ T' N' (by rw [List.length_drop]; omega) h'
      refine ⟨T0.map (Tom.T.sh m), ?_, fun z => ?_⟩
      · simp [Tom.T.sh, List.length_drop]
        simp only [List.length_cons] at hb
        omega
      · have h3 := (hst z m).1 (by rw [List.append_nil]; exact hs)
        rw [scan_step _ (by simp), h3.2]
        simp only
        rw [drop_app3 _ _ _ h3.1, hz z, Res.app_app, List.length_drop, show m + ((c :: r).length - m) = (c :: r).length by omega]
        rfl
    | note m =>
      rw [hs] at h
      simp only at h
      obtain ⟨T', N', h', rfl, rfl⟩ := Res.app_ok h
      have hb := step_note hs
      obtain ⟨T0, rfl, hz⟩ := scan_join n _ T' N' (by rw [List.length_drop]; omega) h'
      refine ⟨T0.map (Tom.T.sh m), ?_, fun z => ?_⟩
      · simp [Tom.T.sh, List.length_drop]
        have := hb.2.1
        simp only [List.length_cons] at this
        omega
      · have h3 := (hst z m).2.1 (by rw [List.append_nil]; exact hs)
        rw [scan_step _ (by simp), h3.2]
        simp only
        rw [drop_app3 _ _ _ h3.1, hz z, Res.app_app, List.length_drop, show m + ((c :: r).length - m) = (c :: r).length by omega, List.take_append_of_le_length h3.1]
        rfl
    | tok k m t =>
      rw [hs] at h
      simp only at h
      obtain ⟨T', N', h', rfl, rfl⟩ := Res.app_ok h
      have hb := step_tok hs
      obtain ⟨T0, rfl, hz⟩ := scan_join n _ T' N' (by rw [List.length_drop]; omega) h'
      refine ⟨[⟨k, 0, m, t⟩] ++ T0.map (Tom.T.sh m), ?_, fun z => ?_⟩
      · simp [Tom.T.sh, List.length_drop]
        have := hb.2.1
        simp only [List.length_cons] at this
        omega
      · have h3 := (hst z m).2.2 k t (by rw [List.append_nil]; exact hs) hb.2.1
        rw [scan_step _ (by simp), h3]
        simp only
        rw [drop_app3 _ _ _ hb.2.1, hz z, Res.app_app, List.length_drop, show m + ((c :: r).length - m) = (c :: r).length by omega]
/-- A line end's scan. -/
theorem scan_lf (z : List UInt8) : scan (10 :: z) = (scan z).app 1 [⟨1, 0, 1, []⟩] [] := by
  rw [scan_step _ (by simp)]
  rfl
theorem scan_skip {l : List UInt8} {m : Nat} (h : step l = .skip m) : scan l = (scan (l.drop m)).app m [] [] := by
  rw [scan_step l (by rintro rfl; simp [step] at h), h]
theorem scan_note {l : List UInt8} {m : Nat} (h : step l = .note m) : scan l = (scan (l.drop m)).app m [] [⟨0, m, l.take m⟩] := by
  rw [scan_step l (by rintro rfl; simp [step] at h), h]
theorem scan_tok {l : List UInt8} {k m : Nat} {t : List UInt8} (h : step l = .tok k m t) : scan l = (scan (l.drop m)).app m [⟨k, 0, m, t⟩] [] := by
  rw [scan_step l (by rintro rfl; simp [step] at h), h]
theorem alike_of {E s2 z : List UInt8} (hE : E = [10] ∨ E = [13, 10]) : Alike (E ++ s2) (E ++ z) := by
  rcases hE with rfl | rfl
  · exact Or.inr (Or.inl ⟨s2, z, rfl, rfl⟩)
  · exact Or.inr (Or.inr ⟨s2, z, rfl, rfl⟩)
theorem lineEnd_form (l : List UInt8) (h : 0 < lineEnd l) : ∃ E s2, (E = [10] ∨ E = [13, 10]) ∧ l = E ++ s2 ∧ lineEnd l = E.length := by
  unfold lineEnd at h
  split at h
  · exact ⟨[10], _, Or.inl rfl, rfl, rfl⟩
  · exact ⟨[13, 10], _, Or.inr rfl, rfl, rfl⟩
  · omega
theorem token_line (l t : List UInt8) (n : Nat) (h : token l = .ok 1 n t) : 0 < lineEnd l ∧ n = lineEnd l ∧ t = [] := by
  unfold token at h
  split at h
  · rename_i h1
    simp only [Tok.ok.injEq] at h
    exact ⟨h1, h.2.1.symm, h.2.2.symm⟩
  · cases l with
    | nil => simp at h
    | cons c r =>
      simp only at h
      split at h
      · simp at h
      · split at h
        · simp at h
        · split at h
          · split at h
            · simp only [Tok.ok.injEq] at h
              have := h.1
              split at this <;> split at this <;> omega
            · simp at h
            · simp at h
          · simp at h
/-- The scan of a source, cut behind its k-th token, a line end: what follows it may be anything. -/
theorem scan_cut : ∀ (n : Nat) (l : List UInt8) (T : List T) (N : List Note), l.length ≤ n → scan l = .ok T N → ∀ (k : Nat) (t : Tom.T), T[k]? = some t → t.kind = 1 →
    ∃ (l0 E s2 : List UInt8) (N1 : List Note), (E = [10] ∨ E = [13, 10]) ∧ l = l0 ++ (E ++ s2) ∧ t = ⟨1, l0.length, l0.length + E.length, []⟩ ∧ ∀ z, scan (l0 ++ (E ++ z)) = (scan z).app (l0.length + E.length) (T.take (k + 1)) N1
  | n, [], T, N, _, h, k, t, ht, hk => by
    rw [scan_nil] at h
    simp only [Res.ok.injEq] at h
    obtain ⟨rfl, rfl⟩ := h
    cases k with
    | zero => simp at ht; subst ht; simp at hk
    | succ k => simp at ht
  | 0, c :: r, _, _, hn, _, _, _, _, _ => by simp at hn
  | n + 1, c :: r, T, N, hn, h, k, t, ht, hk => by
    rw [scan_step _ (by simp)] at h
    cases hs : step (c :: r) with
    | bad m => rw [hs] at h; simp at h
    | skip m =>
      rw [hs] at h
      simp only at h
      obtain ⟨T', N', h', rfl, rfl⟩ := Res.app_ok h
      have hb := step_skip hs
      rw [List.nil_append, List.getElem?_map, Option.map_eq_some_iff] at ht
      obtain ⟨t', ht', rfl⟩ := ht
      obtain ⟨l0, E, s2, N1, hE, hl, ht, hz⟩ := scan_cut n _ T' N' (by rw [List.length_drop]; omega) h' k t' ht' hk
      have hsp : c :: r = ((c :: r).take m ++ l0) ++ (E ++ s2) := by
        rw [List.append_assoc, ← hl, List.take_append_drop]
      have hlen : ((c :: r).take m).length = m := by rw [List.length_take, Nat.min_eq_left hb.2.1]
      generalize (c :: r).take m = p at *
      have hne : p ++ l0 ≠ [] := by
        intro e
        have := congrArg List.length e
        simp only [List.length_append, List.length_nil] at this
        omega
      refine ⟨p ++ l0, E, s2, N1.map (Tom.Note.sh m), hE, hsp, ?_, fun z => ?_⟩
      · subst ht
        simp only [Tom.T.sh, List.length_append, hlen, Tom.T.mk.injEq]
        first | exact ⟨trivial, by omega, by omega, trivial⟩ | exact ⟨rfl, by omega, by omega, rfl⟩
      · have h3 := (step_app (alike_of (s2 := s2) (z := z) hE) _ hne m).1 (by rw [← hsp]; exact hs)
        rw [scan_skip h3.2, List.append_assoc, List.drop_left' hlen, hz z, Res.app_app, List.map_take, List.length_append, hlen, Nat.add_assoc]
        rfl
    | note m =>
      rw [hs] at h
      simp only at h
      obtain ⟨T', N', h', rfl, rfl⟩ := Res.app_ok h
      have hb := step_note hs
      rw [List.nil_append, List.getElem?_map, Option.map_eq_some_iff] at ht
      obtain ⟨t', ht', rfl⟩ := ht
      obtain ⟨l0, E, s2, N1, hE, hl, ht, hz⟩ := scan_cut n _ T' N' (by rw [List.length_drop]; omega) h' k t' ht' hk
      have hsp : c :: r = ((c :: r).take m ++ l0) ++ (E ++ s2) := by
        rw [List.append_assoc, ← hl, List.take_append_drop]
      have hlen : ((c :: r).take m).length = m := by rw [List.length_take, Nat.min_eq_left hb.2.1]
      generalize (c :: r).take m = p at *
      have hne : p ++ l0 ≠ [] := by
        intro e
        have := congrArg List.length e
        simp only [List.length_append, List.length_nil] at this
        omega
      refine ⟨p ++ l0, E, s2, [⟨0, m, p⟩] ++ N1.map (Tom.Note.sh m), hE, hsp, ?_, fun z => ?_⟩
      · subst ht
        simp only [Tom.T.sh, List.length_append, hlen, Tom.T.mk.injEq]
        first | exact ⟨trivial, by omega, by omega, trivial⟩ | exact ⟨rfl, by omega, by omega, rfl⟩
      · have h3 := (step_app (alike_of (s2 := s2) (z := z) hE) _ hne m).2.1 (by rw [← hsp]; exact hs)
        rw [scan_note h3.2, List.append_assoc, List.drop_left' hlen, List.take_left' hlen, hz z, Res.app_app, List.map_take, List.length_append, hlen, Nat.add_assoc]
        rfl
    | tok k' m t' =>
      rw [hs] at h
      simp only at h
      obtain ⟨T', N', h', rfl, rfl⟩ := Res.app_ok h
      have hb := step_tok hs
      cases k with
      | zero =>
        simp only [List.cons_append, List.nil_append, List.getElem?_cons_zero, Option.some.injEq] at ht
        subst ht
        simp only at hk
        subst hk
        obtain ⟨h1, h2, h3⟩ := token_line _ _ _ hb.2.2
        obtain ⟨E, s2, hE, hl, hlE⟩ := lineEnd_form _ h1
        subst h3
        rw [hlE] at h2
        subst h2
        refine ⟨[], E, s2, [], hE, hl, by simp, fun z => ?_⟩
        have h4 : step (E ++ z) = .tok 1 E.length [] := by
          rcases hE with rfl | rfl <;> rfl
        rw [List.nil_append, scan_tok h4, List.drop_left]
        simp
      | succ k =>
        rw [List.cons_append, List.nil_append, List.getElem?_cons_succ, List.getElem?_map, Option.map_eq_some_iff] at ht
        obtain ⟨t2, ht', rfl⟩ := ht
        obtain ⟨l0, E, s2, N1, hE, hl, ht, hz⟩ := scan_cut n _ T' N' (by rw [List.length_drop]; omega) h' k t2 ht' hk
        have hsp : c :: r = ((c :: r).take m ++ l0) ++ (E ++ s2) := by
          rw [List.append_assoc, ← hl, List.take_append_drop]
        have hlen : ((c :: r).take m).length = m := by rw [List.length_take, Nat.min_eq_left hb.2.1]
        generalize (c :: r).take m = p at *
        have hne : p ++ l0 ≠ [] := by
          intro e
          have := congrArg List.length e
          simp only [List.length_append, List.length_nil] at this
          omega
        refine ⟨p ++ l0, E, s2, N1.map (Tom.Note.sh m), hE, hsp, ?_, fun z => ?_⟩
        · subst ht
          simp only [Tom.T.sh, List.length_append, hlen, Tom.T.mk.injEq]
          first | exact ⟨trivial, by omega, by omega, trivial⟩ | exact ⟨rfl, by omega, by omega, rfl⟩
        · have h3 := (step_app (alike_of (s2 := s2) (z := z) hE) _ hne m).2.2 k' t' (by rw [← hsp]; exact hs) (by simp only [List.length_append]; omega)
          rw [scan_tok h3, List.append_assoc, List.drop_left' hlen, hz z, Res.app_app, List.map_take, List.length_append, hlen, Nat.add_assoc]
          rfl
/-- A comment line behind a line end. -/
theorem scan_new (s : List UInt8) : scan ([32, 35, 110, 101, 119, 10] ++ s) = (scan s).app 6 [⟨1, 5, 6, []⟩] [⟨1, 5, [35, 110, 101, 119]⟩] := by
  have h1 : step ([32, 35, 110, 101, 119, 10] ++ s) = .skip 1 := rfl
  have h2 : step ([35, 110, 101, 119, 10] ++ s) = .note 4 := rfl
  have h3 : step ([10] ++ s) = .tok 1 1 [] := rfl
  rw [scan_skip h1]
  show (scan ([35, 110, 101, 119, 10] ++ s)).app 1 [] [] = _
  rw [scan_note h2]
  show ((scan ([10] ++ s)).app 4 [] _).app 1 [] [] = _
  rw [scan_tok h3, Res.app_app, Res.app_app]
  rfl
end Tom
