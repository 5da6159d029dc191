/-
  The plain law of tomllex, seventh part: bounds of a scan. No program stands in it.
-/
import Derived.Test.YtdhbljbfjdlcdaaDoorTom5
namespace Tom
theorem scan_bd : ∀ (n : Nat) (l : List UInt8) (T : List T) (N : List Note), l.length ≤ n → scan l = .ok T N → 1 ≤ T.length ∧ T.length ≤ l.length + 1 ∧ N.length ≤ l.length ∧ (∀ t ∈ T, t.frm ≤ t.to ∧ t.to ≤ l.length ∧ t.kind ≤ 8)
  | n, [], T, N, _, h => by
    rw [scan_nil] at h
    simp only [Res.ok.injEq] at h
    obtain ⟨rfl, rfl⟩ := h
    simp
  | 0, c :: r, _, _, hn, _ => by simp at hn
  | n + 1, c :: r, T, N, hn, h => by
    rw [scan_step _ (by simp)] at h
    cases hs : step (c :: r) with
    | bad m => rw [hs] at h; simp at h
    | skip m =>
      rw [hs] at h
      simp only at h
      obtain ⟨T', N', h', rfl, rfl⟩ := Res.app_ok h
      have hb := step_skip hs
      have ih := scan_bd n _ T' N' (by rw [List.length_drop]; omega) h'
      rw [List.length_drop] at ih
      simp only [List.nil_append, List.length_map, List.mem_map]
      refine ⟨ih.1, by omega, by omega, ?_⟩
      rintro t ⟨t', ht, rfl⟩
      have := ih.2.2.2 t' ht
      simp only [Tom.T.sh]
      omega
    | note m =>
      rw [hs] at h
      simp only at h
      obtain ⟨T', N', h', rfl, rfl⟩ := Res.app_ok h
      have hb := step_note hs
      have hb1 := hb.1
      have hb2 := hb.2.1
      have ih := scan_bd n _ T' N' (by rw [List.length_drop]; omega) h'
      rw [List.length_drop] at ih
      simp only [List.nil_append, List.cons_append, List.length_cons, List.length_map, List.mem_map] at *
      refine ⟨ih.1, by omega, by omega, ?_⟩
      rintro t ⟨t', ht, rfl⟩
      have := ih.2.2.2 t' ht
      simp only [Tom.T.sh]
      omega
    | tok k m t =>
      rw [hs] at h
      simp only at h
      obtain ⟨T', N', h', rfl, rfl⟩ := Res.app_ok h
      have hb := step_tok hs
      have hb1 := hb.1
      have hb2 := hb.2.1
      have hk := (token_bd _ _ _ _ hb.2.2).2.2.2
      have ih := scan_bd n _ T' N' (by rw [List.length_drop]; omega) h'
      rw [List.length_drop] at ih
      simp only [List.nil_append, List.cons_append, List.length_cons, List.length_map, List.mem_cons, List.mem_map] at *
      refine ⟨by omega, by omega, by omega, ?_⟩
      rintro t2 (rfl | ⟨t', ht, rfl⟩)
      · simp only
        omega
      · have := ih.2.2.2 t' ht
        simp only [Tom.T.sh]
        omega
end Tom
