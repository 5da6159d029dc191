/-
  The plain law of tomllex, ninth part: tokens and comments cover a source, with blanks between them. No program stands in it.
-/
import Derived.Test.YtdhbljbfjdlcdaaDoorTom7
namespace Tom
def blanks (l : List UInt8) (a f : Nat) : Prop := ∀ c ∈ (l.take f).drop a, blank c = true
/-- Spans from a place on: ascending, blanks between them, the last one empty at the end. -/
def Cov (l : List UInt8) : Nat → List (Nat × Nat) → Prop
  | _, [] => False
  | a, [x] => a ≤ x.1 ∧ x.1 = l.length ∧ x.2 = l.length ∧ blanks l a x.1
  | a, x :: y :: M => a ≤ x.1 ∧ x.1 < x.2 ∧ blanks l a x.1 ∧ Cov l x.2 (y :: M)
def shp (m : Nat) (x : Nat × Nat) : Nat × Nat := (x.1 + m, x.2 + m)
theorem blanks_drop (l : List UInt8) (m a f : Nat) (h : blanks (l.drop m) a f) : blanks l (a + m) (f + m) := by
  intro c hc
  refine h c ?_
  rw [List.take_drop, List.drop_drop]
  rw [show m + f = f + m by omega, show m + a = a + m by omega]
  exact hc
theorem cov_drop (l : List UInt8) (m : Nat) (hm : m ≤ l.length) : ∀ (M : List (Nat × Nat)) (a : Nat), Cov (l.drop m) a M → Cov l (a + m) (M.map (shp m))
  | [], _, h => h.elim
  | [x], a, h => by
    obtain ⟨h1, h2, h3, h4⟩ := h
    rw [List.length_drop] at h2 h3
    refine ⟨by show a + m ≤ x.1 + m; omega, by show x.1 + m = _; omega, by show x.2 + m = _; omega, blanks_drop l m a x.1 h4⟩
  | x :: y :: M, a, h => by
    obtain ⟨h1, h2, h3, h4⟩ := h
    exact ⟨by show a + m ≤ x.1 + m; omega, by show x.1 + m < x.2 + m; omega, blanks_drop l m a x.1 h3, cov_drop l m hm (y :: M) x.2 h4⟩
theorem cov_ge (l : List UInt8) : ∀ (M : List (Nat × Nat)) (a : Nat), Cov l a M → ∀ x ∈ M, a ≤ x.1
  | [], _, h, _, _ => h.elim
  | [x], a, h, y, hy => by
    rw [List.mem_singleton] at hy
    subst hy
    exact h.1
  | x :: y :: M, a, h, z, hz => by
    obtain ⟨h1, h2, _, h4⟩ := h
    rcases List.mem_cons.1 hz with rfl | hz
    · exact h1
    · have := cov_ge l (y :: M) x.2 h4 z hz
      omega
theorem cov_back (l : List UInt8) (m : Nat) (hb : blanks l 0 m) (x : Nat × Nat) (M : List (Nat × Nat)) (h : Cov l m (x :: M)) : Cov l 0 (x :: M) := by
  have hb2 : ∀ f, m ≤ f → blanks l m f → blanks l 0 f := by
    intro f hf h2 c hc
    rw [List.drop_zero] at hc
    have e : l.take f = l.take m ++ (l.take f).drop m := by
      conv => lhs; rw [← List.take_append_drop m (l.take f)]
      rw [List.take_take, Nat.min_eq_left hf]
    rw [e, List.mem_append] at hc
    rcases hc with hc | hc
    · exact hb c (by rw [List.drop_zero]; exact hc)
    · exact h2 c hc
  match M, h with
  | [], h => exact ⟨Nat.zero_le _, h.2.1, h.2.2.1, hb2 _ h.1 h.2.2.2⟩
  | y :: M, h => exact ⟨Nat.zero_le _, h.2.1, hb2 _ h.1 h.2.2.1, h.2.2.2⟩
theorem cov_asc (l : List UInt8) : ∀ (M : List (Nat × Nat)) (a : Nat), Cov l a M → M.Pairwise fun x y => x.1 < y.1
  | [], _, _ => List.Pairwise.nil
  | [x], _, _ => List.pairwise_singleton _ _
  | x :: y :: M, a, h => by
    obtain ⟨_, h2, _, h4⟩ := h
    refine List.Pairwise.cons ?_ (cov_asc l (y :: M) x.2 h4)
    intro z hz
    have := cov_ge l (y :: M) x.2 h4 z hz
    omega
/-- Two lists with the same members, the one ascending, the other strictly ascending, are the same. -/
theorem asc_eq : ∀ (l2 l1 : List (Nat × Nat)), l1.Perm l2 → l1.Pairwise (fun x y => x.1 ≤ y.1) → l2.Pairwise (fun x y => x.1 < y.1) → l1 = l2
  | [], l1, hp, _, _ => hp.eq_nil
  | x :: t, [], hp, _, _ => absurd hp.symm.eq_nil (by simp)
  | x :: t, y :: s, hp, h1, h2 => by
    have hxy : y = x := by
      by_cases e : y = x
      · exact e
      · exfalso
        have hy : y ∈ t := by
          rcases List.mem_cons.1 (hp.mem_iff.1 (List.mem_cons_self)) with h | h
          · exact absurd h e
          · exact h
        have hx : x ∈ s := by
          rcases List.mem_cons.1 (hp.mem_iff.2 (List.mem_cons_self)) with h | h
          · exact absurd h.symm e
          · exact h
        have a1 := (List.pairwise_cons.1 h2).1 y hy
        have a2 := (List.pairwise_cons.1 h1).1 x hx
        omega
    subst hxy
    rw [asc_eq t s (List.Perm.cons_inv hp) (List.pairwise_cons.1 h1).2 (List.pairwise_cons.1 h2).2]
def tpair (t : T) : Nat × Nat := (t.frm, t.to)
def npair (t : Note) : Nat × Nat := (t.frm, t.to)
theorem tpair_sh (m : Nat) (l : List T) : (l.map (T.sh m)).map tpair = (l.map tpair).map (shp m) := by
  rw [List.map_map, List.map_map]; rfl
theorem npair_sh (m : Nat) (l : List Note) : (l.map (Note.sh m)).map npair = (l.map npair).map (shp m) := by
  rw [List.map_map, List.map_map]; rfl
theorem run_blanks : ∀ l : List UInt8, ∀ c ∈ l.take (run blank l), blank c = true
  | [], c, h => by simp at h
  | d :: l, c, h => by
    rw [run_cons] at h
    by_cases hd : blank d = true
    · rw [if_pos hd, List.take_succ_cons] at h
      rcases List.mem_cons.1 h with rfl | h
      · exact hd
      · exact run_blanks l c h
    · rw [if_neg hd] at h
      simp at h
theorem scan_cov : ∀ (n : Nat) (l : List UInt8) (T : List T) (N : List Note), l.length ≤ n → scan l = .ok T N → ∃ M, (T.map tpair ++ N.map npair).Perm M ∧ Cov l 0 M
  | n, [], T, N, _, h => by
    rw [scan_nil] at h
    simp only [Res.ok.injEq] at h
    obtain ⟨rfl, rfl⟩ := h
    exact ⟨[(0, 0)], List.Perm.refl _, Nat.le_refl _, rfl, rfl, by intro c hc; simp at hc⟩
  | 0, c :: r, _, _, hn, _ => by simp at hn
  | n + 1, c :: r, T, N, hn, h => by
    rw [scan_step _ (by simp)] at h
    cases hs : step (c :: r) with
    | bad m => rw [hs] at h; simp at h
    | skip m =>
      rw [hs] at h
      simp only at h
      obtain ⟨T', N', h', rfl, rfl⟩ := Res.app_ok h
      obtain ⟨hb1, hb2, hb3⟩ := step_skip hs
      obtain ⟨M, hp, hc⟩ := scan_cov n _ T' N' (by rw [List.length_drop]; omega) h'
      refine ⟨M.map (shp m), ?_, ?_⟩
      · rw [List.nil_append, List.nil_append, tpair_sh, npair_sh, ← List.map_append]
        exact hp.map _
      · have h2 := cov_drop (c :: r) m hb2 M 0 hc
        rw [Nat.zero_add] at h2
        cases M with
        | nil => exact hc.elim
        | cons x M =>
          refine cov_back (c :: r) m ?_ _ _ h2
          intro d hd
          rw [List.drop_zero, hb3] at hd
          exact run_blanks _ d hd
    | note m =>
      rw [hs] at h
      simp only at h
      obtain ⟨T', N', h', rfl, rfl⟩ := Res.app_ok h
      have hb := step_note hs
      have hb1 := hb.1
      have hb2 := hb.2.1
      obtain ⟨M, hp, hc⟩ := scan_cov n _ T' N' (by rw [List.length_drop]; omega) h'
      refine ⟨(0, m) :: M.map (shp m), ?_, ?_⟩
      · simp only [List.nil_append, List.cons_append, List.map_cons]
        rw [tpair_sh, npair_sh]
        refine List.perm_middle.trans ?_
        rw [← List.map_append]
        exact (hp.map _).cons _
      · have h2 := cov_drop (c :: r) m hb2 M 0 hc
        rw [Nat.zero_add] at h2
        cases M with
        | nil => exact hc.elim
        | cons x M => exact ⟨Nat.le_refl _, hb1, by intro d hd; simp at hd, h2⟩
    | tok k m t =>
      rw [hs] at h
      simp only at h
      obtain ⟨T', N', h', rfl, rfl⟩ := Res.app_ok h
      have hb := step_tok hs
      have hb1 := hb.1
      have hb2 := hb.2.1
      obtain ⟨M, hp, hc⟩ := scan_cov n _ T' N' (by rw [List.length_drop]; omega) h'
      refine ⟨(0, m) :: M.map (shp m), ?_, ?_⟩
      · simp only [List.nil_append, List.cons_append, List.map_cons]
        rw [tpair_sh, npair_sh, ← List.map_append]
        exact (hp.map _).cons _
      · have h2 := cov_drop (c :: r) m hb2 M 0 hc
        rw [Nat.zero_add] at h2
        cases M with
        | nil => exact hc.elim
        | cons x M => exact ⟨Nat.le_refl _, hb1, by intro d hd; simp at hd, h2⟩
theorem scan_notes : ∀ (n : Nat) (l : List UInt8) (T : List T) (N : List Note), l.length ≤ n → scan l = .ok T N → ∀ x ∈ N, x.frm < x.to ∧ x.to ≤ l.length ∧ x.text = (l.drop x.frm).take (x.to - x.frm) ∧ ∃ r, x.text = 35 :: r
  | n, [], T, N, _, h => by
    rw [scan_nil] at h
    simp only [Res.ok.injEq] at h
    obtain ⟨rfl, rfl⟩ := h
    simp
  | 0, c :: r, _, _, hn, _ => by simp at hn
  | n + 1, c :: r, T, N, hn, h => by
    rw [scan_step _ (by simp)] at h
    have key : ∀ (m : Nat) (T' : List Tom.T) (N' : List Note), 1 ≤ m → m ≤ (c :: r).length → scan ((c :: r).drop m) = .ok T' N' → ∀ x ∈ N'.map (Tom.Note.sh m), x.frm < x.to ∧ x.to ≤ (c :: r).length ∧ x.text = ((c :: r).drop x.frm).take (x.to - x.frm) ∧ ∃ r, x.text = 35 :: r := by
      intro m T' N' hm hm2 h' x hx
      obtain ⟨y, hy, rfl⟩ := List.mem_map.1 hx
      obtain ⟨i1, i2, i3, i4⟩ := scan_notes n _ T' N' (by rw [List.length_drop]; omega) h' y hy
      rw [List.length_drop] at i2
      refine ⟨by show y.frm + m < y.to + m; omega, by show y.to + m ≤ _; omega, ?_, i4⟩
      show y.text = ((c :: r).drop (y.frm + m)).take (y.to + m - (y.frm + m))
      rw [i3, List.drop_drop, show m + y.frm = y.frm + m by omega, show y.to + m - (y.frm + m) = y.to - y.frm by omega]
    cases hs : step (c :: r) with
    | bad m => rw [hs] at h; simp at h
    | skip m =>
      rw [hs] at h
      simp only at h
      obtain ⟨T', N', h', rfl, rfl⟩ := Res.app_ok h
      have hb := step_skip hs
      exact key m T' N' hb.1 hb.2.1 h'
    | note m =>
      rw [hs] at h
      simp only at h
      obtain ⟨T', N', h', rfl, rfl⟩ := Res.app_ok h
      obtain ⟨hb1, hb2, _, _, r2, hr2⟩ := step_note hs
      intro x hx
      rcases List.mem_cons.1 hx with rfl | hx
      · refine ⟨hb1, hb2, rfl, ?_⟩
        obtain ⟨m, rfl⟩ : ∃ m', m = m' + 1 := ⟨m - 1, by omega⟩
        rw [hr2]
        exact ⟨_, rfl⟩
      · exact key m T' N' hb1 hb2 h' x hx
    | tok k m t =>
      rw [hs] at h
      simp only at h
      obtain ⟨T', N', h', rfl, rfl⟩ := Res.app_ok h
      have hb := step_tok hs
      exact key m T' N' hb.1 hb.2.1 h'
end Tom
