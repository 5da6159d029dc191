/-
  TomllexLines: what Scan answers at the source with the new comment line.
-/
import Derived.Test.YtdhbljbfjdlcdaaDoorOut
import Derived.Test.YtdhbljbfjdlcdaaDoorTom6
namespace Go.Proofs.YtdhbljbfjdlcdaaDoor
open Go.RowKit
theorem app_two (a b : ByteArray) : (a ++ b).data.toList = a.data.toList ++ b.data.toList := by
  rw [ByteArray.data_append]
  simp
theorem snd_new (s : List UInt8) (h : Snd s) : Snd ([32, 35, 110, 101, 119, 10] ++ s) := by
  show Snd (32 :: 35 :: 110 :: 101 :: 119 :: 10 :: s)
  rw [snd_ascii _ (by decide), snd_ascii _ (by decide), snd_ascii _ (by decide), snd_ascii _ (by decide), snd_ascii _ (by decide), snd_ascii _ (by decide)]
  exact h
theorem out_lines {l : List UInt8} {T : List Tom.T} {N : List Tom.Note} (hs : Snd l) (hsc : Tom.scan l = .ok T N) (K : Nat) (t : Tom.T) (hK : T[K]? = some t) (hk : t.kind = 1) :
    t.to ≤ l.length ∧ ∃ (T2 : List Tom.T) (N' : List Tom.Note), T = T.take (K + 1) ++ T2 ∧ (T.take (K + 1)).length = K + 1 ∧ N'.length = N.length + 1 ∧
      outOf (l.take t.to ++ ([32, 35, 110, 101, 119, 10] ++ l.drop t.to)) = ⟨T.take (K + 1) ++ ⟨1, t.to + 5, t.to + 6, []⟩ :: T2.map (Tom.T.sh 6), N', 0, 0⟩ := by
  obtain ⟨l0, E, s2, N1, hE, hl, ht, hz⟩ := Tom.scan_cut l.length l T N (Nat.le_refl _) hsc K t hK hk
  have hto : t.to = l0.length + E.length := by rw [ht]
  have hlen : (T.take (K + 1)).length = K + 1 := by
    have : K < T.length := by
      have := (List.getElem?_eq_some_iff.1 hK).1
      exact this
    rw [List.length_take]; omega
  have e1 : l.take t.to = l0 ++ E := by
    rw [hto, hl, ← List.append_assoc]
    exact List.take_left' (by rw [List.length_append])
  have e2 : l.drop t.to = s2 := by
    rw [hto, hl, ← List.append_assoc]
    exact List.drop_left' (by rw [List.length_append])
  have h2 := hz s2
  rw [← hl, hsc] at h2
  obtain ⟨T', N', hs2, hT, hN⟩ := Tom.Res.app_ok h2.symm
  obtain ⟨E', hE'⟩ : ∃ E', E = E' ++ [10] := by
    rcases hE with rfl | rfl
    · exact ⟨[], rfl⟩
    · exact ⟨[13], rfl⟩
  have hsp : ∀ z, l0 ++ (E ++ z) = (l0 ++ E') ++ 10 :: z := fun z => by rw [hE']; simp
  have hsn : Snd (l0 ++ E') ∧ Snd s2 := by
    rw [hl, hsp] at hs
    exact (snd_app _ 10 _ (by decide)).1 hs
  refine ⟨by rw [hto, hl]; simp only [List.length_append]; omega, T'.map (Tom.T.sh t.to), N1 ++ ([(⟨1, 5, [35, 110, 101, 119]⟩ : Tom.Note)] ++ N'.map (Tom.Note.sh 6)).map (Tom.Note.sh (l0.length + E.length)), ?_, hlen, ?_, ?_⟩
  · rw [hto]; exact hT
  · rw [hN]
    simp only [List.length_append, List.length_map, List.length_cons, List.length_nil]
    omega
  · rw [e1, e2, List.append_assoc]
    refine outOf_mk ?_ ?_
    · rw [hsp]
      exact (snd_app _ 10 _ (by decide)).2 ⟨hsn.1, snd_new s2 hsn.2⟩
    · rw [hz, Tom.scan_new, hs2]
      simp only [Tom.Res.app, hto]
      congr 2
      simp only [List.map_cons, List.cons_append, List.nil_append, Tom.T.sh_sh, Tom.T.sh, List.cons.injEq, Tom.T.mk.injEq, true_and, and_true]
      refine ⟨⟨by omega, by omega⟩, ?_⟩
      rw [Nat.add_comm 6]
theorem new_row {T T2 : List Tom.T} {K P : Nat} (hT : T = T.take (K + 1) ++ T2) (hl : (T.take (K + 1)).length = K + 1) (M : List Tom.T) (hM : M = T.take (K + 1) ++ ⟨1, P + 5, P + 6, []⟩ :: T2.map (Tom.T.sh 6)) :
    M.length = T.length + 1 ∧ (∀ i, i ≤ K → M[i]? = T[i]?) ∧ M[K + 1]? = some ⟨1, P + 5, P + 6, []⟩ ∧ ∀ i, K < i → M[i + 1]? = (T[i]?).map (Tom.T.sh 6) := by
  subst hM
  refine ⟨?_, fun i hi => ?_, ?_, fun i hi => ?_⟩
  · conv => rhs; rw [hT]
    simp only [List.length_append, List.length_cons, List.length_map]
    omega
  · rw [List.getElem?_append_left (by omega)]
    conv => rhs; rw [hT, List.getElem?_append_left (by omega)]
  · rw [List.getElem?_append_right (by omega), hl, Nat.sub_self]; rfl
  · rw [List.getElem?_append_right (by omega), hl, show i + 1 - (K + 1) = (i - (K + 1)) + 1 by omega, List.getElem?_cons_succ, List.getElem?_map]
    conv => rhs; rw [hT, List.getElem?_append_right (by omega), hl]
theorem out_lines2 {l : List UInt8} {T : List Tom.T} {N : List Tom.Note} (hs : Snd l) (hsc : Tom.scan l = .ok T N) (K : Nat) (t : Tom.T) (hK : T[K]? = some t) (hk : t.kind = 1) :
    t.to ≤ l.length ∧ ∃ (M : List Tom.T) (N' : List Tom.Note), N'.length = N.length + 1 ∧ outOf (l.take t.to ++ ([32, 35, 110, 101, 119, 10] ++ l.drop t.to)) = ⟨M, N', 0, 0⟩ ∧
      M.length = T.length + 1 ∧ (∀ i, i ≤ K → M[i]? = T[i]?) ∧ M[K + 1]? = some ⟨1, t.to + 5, t.to + 6, []⟩ ∧ ∀ i, K < i → M[i + 1]? = (T[i]?).map (Tom.T.sh 6) := by
  obtain ⟨h1, T2, N', hT, hTl, hN, hO⟩ := out_lines hs hsc K t hK hk
  exact ⟨h1, _, N', hN, hO, new_row hT hTl _ rfl⟩
end Go.Proofs.YtdhbljbfjdlcdaaDoor
