/-
  The plain law of instant, third part: canonical texts are settled; the numbers of a canonical text. No program stands in it.
-/
import Derived.Test.YtbficmdjblimfaaDoorIn1
namespace Ins
theorem dv_le (c : UInt8) (h : dig c = true) : dv c ≤ 9 := by
  unfold dig at h
  simp only [Bool.and_eq_true, decide_eq_true_eq, UInt8.le_iff_toNat_le] at h
  have e : (57 : UInt8).toNat = 57 := rfl
  unfold dv
  omega
theorem num_bd : ∀ (n v : Nat) (l : List UInt8) (x : Nat), num n v l = some x → x < (v + 1) * 10 ^ n ∧ n ≤ l.length
  | 0, v, l, x, h => by
    simp only [num, Option.some.injEq] at h
    exact ⟨by rw [Nat.pow_zero]; omega, Nat.zero_le _⟩
  | n + 1, v, [], x, h => by simp [num] at h
  | n + 1, v, c :: l, x, h => by
    unfold num at h
    split at h
    · rename_i hc
      have ih := num_bd n _ l x h
      have hd := dv_le c hc
      refine ⟨?_, by rw [List.length_cons]; omega⟩
      rw [Nat.pow_succ, Nat.mul_comm (10 ^ n) 10, ← Nat.mul_assoc]
      exact Nat.lt_of_lt_of_le ih.1 (Nat.mul_le_mul_right _ (by omega))
    · cases h
theorem numAt2 {L : List UInt8} {a x : Nat} (h : numAt L a 2 = some x) : x ≤ 99 ∧ a + 2 ≤ L.length := by
  have := num_bd 2 0 _ x h
  rw [List.length_drop] at this
  omega
theorem numAt4 {L : List UInt8} {a x : Nat} (h : numAt L a 4 = some x) : x ≤ 9999 ∧ a + 4 ≤ L.length := by
  have := num_bd 4 0 _ x h
  rw [List.length_drop] at this
  omega
theorem dateAt_bd {L : List UInt8} {a y m d : Nat} (h : dateAt L a = some (y, m, d)) : y ≤ 9999 ∧ m ≤ 99 ∧ d ≤ 99 ∧ a + 10 ≤ L.length := by
  unfold dateAt at h
  split at h
  · rename_i y' m' d' h1 h2 h3
    split at h
    · simp only [Option.some.injEq, Prod.mk.injEq] at h
      obtain ⟨rfl, rfl, rfl⟩ := h
      have := numAt4 h1
      have := numAt2 h2
      have := numAt2 h3
      omega
    · cases h
  · cases h
theorem hmsAt_bd {L : List UInt8} {a h m s : Nat} (e : hmsAt L a = some (h, m, s)) : h ≤ 99 ∧ m ≤ 99 ∧ s ≤ 99 ∧ a + 8 ≤ L.length := by
  unfold hmsAt at e
  split at e
  · rename_i y' m' d' h1 h2 h3
    split at e
    · simp only [Option.some.injEq, Prod.mk.injEq] at e
      obtain ⟨rfl, rfl, rfl⟩ := e
      have := numAt2 h1
      have := numAt2 h2
      have := numAt2 h3
      omega
    · cases e
  · cases e
theorem val_lt : ∀ (l : List UInt8) (v : Nat), (∀ c ∈ l, dig c = true) → val v l < (v + 1) * 10 ^ l.length
  | [], v, _ => by rw [val_nil, List.length_nil, Nat.pow_zero]; omega
  | c :: l, v, h => by
    have hd := dv_le c (h c List.mem_cons_self)
    have ih := val_lt l (10 * v + dv c) (fun d hd => h d (List.mem_cons_of_mem _ hd))
    rw [val_cons, List.length_cons, Nat.pow_succ, Nat.mul_comm (10 ^ l.length) 10, ← Nat.mul_assoc]
    exact Nat.lt_of_lt_of_le ih (Nat.mul_le_mul_right _ (by omega))
theorem run_le (l : List UInt8) : run l ≤ l.length := (List.takeWhile_sublist dig).length_le
theorem run_dig : ∀ l : List UInt8, ∀ c ∈ l.take (run l), dig c = true
  | [], c, h => by simp at h
  | d :: l, c, h => by
    unfold run at h
    rw [List.takeWhile_cons] at h
    by_cases hd : dig d = true
    · rw [if_pos hd, List.length_cons, List.take_succ_cons] at h
      rcases List.mem_cons.1 h with rfl | h
      · exact hd
      · exact run_dig l c h
    · rw [if_neg hd] at h
      simp at h
theorem fracAt_bd {L : List UInt8} {a n b : Nat} (h : fracAt L a = some (n, b)) : n ≤ 999999999 ∧ a ≤ b ∧ (a ≤ L.length → b ≤ L.length) := by
  unfold fracAt at h
  split at h
  · split at h
    · cases h
    · rename_i hr
      simp only [Option.some.injEq, Prod.mk.injEq] at h
      obtain ⟨h1, h2⟩ := h
      have hl := val_lt _ 0 (run_dig (L.drop (a + 1)))
      have hle := run_le (L.drop (a + 1))
      rw [List.length_take, Nat.min_eq_left hle] at hl
      rw [List.length_drop] at hle
      generalize run (L.drop (a + 1)) = k at *
      obtain ⟨j, hj⟩ : ∃ j, k + j = 9 := ⟨9 - k, by omega⟩
      have h9 : 10 ^ k * 10 ^ j = 1000000000 := by rw [← Nat.pow_add, hj]
      rw [show 9 - k = j by omega] at h1
      have hp : 0 < 10 ^ j := Nat.pow_pos (by decide)
      rw [Nat.zero_add, Nat.one_mul] at hl
      have hm := (Nat.mul_lt_mul_right hp).2 hl
      rw [h9, h1] at hm
      omega
  · simp only [Option.some.injEq, Prod.mk.injEq] at h
    omega
theorem clockAt_bd {L : List UInt8} {a h m s n b : Nat} (e : clockAt L a = some (h, m, s, n, b)) : h ≤ 99 ∧ m ≤ 99 ∧ s ≤ 99 ∧ n ≤ 999999999 ∧ a + 8 ≤ b ∧ b ≤ L.length := by
  unfold clockAt at e
  split at e
  · cases e
  · rename_i h1
    split at e
    · cases e
    · rename_i h2
      simp only [Option.some.injEq, Prod.mk.injEq] at e
      obtain ⟨rfl, rfl, rfl, rfl, rfl⟩ := e
      have := hmsAt_bd h1
      have := fracAt_bd h2
      omega
theorem zoneAt_bd {L : List UInt8} {a zh zm b : Nat} {z : UInt8} (h : zoneAt L a = some (z, zh, zm, b)) : (z = 90 ∧ zh = 0 ∧ zm = 0 ∨ z = 43 ∨ z = 45) ∧ zh ≤ 99 ∧ zm ≤ 99 ∧ a < b := by
  unfold zoneAt at h
  split at h
  · simp only [Option.some.injEq, Prod.mk.injEq] at h
    obtain ⟨rfl, rfl, rfl, rfl⟩ := h
    exact ⟨.inl ⟨rfl, rfl, rfl⟩, by omega, by omega, by omega⟩
  · split at h
    · split at h
      · rename_i h1 h2
        split at h
        · simp only [Option.some.injEq, Prod.mk.injEq] at h
          obtain ⟨hz, rfl, rfl, rfl⟩ := h
          have := numAt2 h1
          have := numAt2 h2
          refine ⟨.inr ?_, by omega, by omega, by omega⟩
          split at hz
          · exact .inl hz.symm
          · exact .inr hz.symm
        · cases h
      · cases h
    · cases h
/-- What is known of the fields that were read. -/
structure M.rd (m : M) : Prop where
  some_ : m.date = true ∨ m.time = true
  y : m.y ≤ 9999
  mo : m.mo ≤ 99
  d : m.d ≤ 99
  h : m.h ≤ 99
  mi : m.mi ≤ 99
  s : m.s ≤ 99
  ns : m.ns ≤ 999999999
  zh : m.zh ≤ 99
  zm : m.zm ≤ 99
  z : m.z = 0 ∧ m.zh = 0 ∧ m.zm = 0 ∨ (m.z = 90 ∧ m.zh = 0 ∧ m.zm = 0 ∨ m.z = 43 ∨ m.z = 45) ∧ m.date = true ∧ m.time = true
  nodate : m.date = false → m.y = 0 ∧ m.mo = 0 ∧ m.d = 0
  notime : m.time = false → m.h = 0 ∧ m.mi = 0 ∧ m.s = 0 ∧ m.ns = 0
theorem read_rd {L : List UInt8} {m : M} (h : read L = some m) : m.rd := by
  unfold read at h
  split at h
  · split at h
    · cases h
    · rename_i hc
      have := clockAt_bd hc
      split at h
      · simp only [Option.some.injEq] at h
        subst h
        exact ⟨.inr rfl, by simp, by simp, by simp, by simp only; omega, by simp only; omega, by simp only; omega, by simp only; omega, by simp, by simp, .inl ⟨rfl, rfl, rfl⟩, fun _ => ⟨rfl, rfl, rfl⟩, by simp⟩
      · cases h
  · rename_i hd
    have := dateAt_bd hd
    split at h
    · simp only [Option.some.injEq] at h
      subst h
      exact ⟨.inl rfl, by simp only; omega, by simp only; omega, by simp only; omega, by simp, by simp, by simp, by simp, by simp, by simp, .inl ⟨rfl, rfl, rfl⟩, by simp, fun _ => ⟨rfl, rfl, rfl, rfl⟩⟩
    · split at h
      · split at h
        · cases h
        · rename_i hc
          have := clockAt_bd hc
          split at h
          · simp only [Option.some.injEq] at h
            subst h
            exact ⟨.inl rfl, by simp only; omega, by simp only; omega, by simp only; omega, by simp only; omega, by simp only; omega, by simp only; omega, by simp only; omega, by simp, by simp, .inl ⟨rfl, rfl, rfl⟩, by simp, by simp⟩
          · split at h
            · cases h
            · rename_i hz
              have hz := zoneAt_bd hz
              split at h
              · simp only [Option.some.injEq] at h
                subst h
                exact ⟨.inl rfl, by simp only; omega, by simp only; omega, by simp only; omega, by simp only; omega, by simp only; omega, by simp only; omega, by simp only; omega, by simp only; omega, by simp only; omega, .inr ⟨hz.1, rfl, rfl⟩, by simp, by simp⟩
              · cases h
      · cases h
theorem ofS_wf (n ns : Nat) (hn : n < top) (hs : ns ≤ 999999999) : (ofS n ns).wf ∧ (ofS n ns).ranges = true ∧ (ofS n ns).secs = n := by
  unfold top at hn
  obtain ⟨h1, h2⟩ := dateOf_ok (n / 86400) (by omega)
  obtain ⟨d1, d2, d3, d4, d5⟩ := h1
  have := (mlen_bd (dateOf (n / 86400)).1 (dateOf (n / 86400)).2.1).2
  refine ⟨⟨.inl rfl, d1, ?_, ?_, ?_, ?_, ?_, hs, .inr ⟨rfl, rfl, rfl⟩, rfl, rfl, (fun h => by cases h), (fun h => by cases h)⟩, ?_, ?_⟩
  · show (dateOf (n / 86400)).2.1 ≤ 99; omega
  · show (dateOf (n / 86400)).2.2 ≤ 99; omega
  · show n % 86400 / 3600 ≤ 99; omega
  · show n % 86400 / 60 % 60 ≤ 99; omega
  · show n % 60 ≤ 99; omega
  · unfold M.ranges ofS
    simp only [Bool.not_true, Bool.false_or]
    rw [decide_eq_true ⟨d1, d2, d3, d4, d5⟩, decide_eq_true (show n % 86400 / 3600 ≤ 23 by omega), decide_eq_true (show n % 86400 / 60 % 60 ≤ 59 by omega), decide_eq_true (show n % 60 ≤ 59 by omega)]
    rfl
  · unfold M.secs ofS
    simp only
    rw [h2, if_neg (by decide)]
    omega
theorem ofS_read (n ns : Nat) (hn : n < top) (hs : ns ≤ 999999999) : read ((ofS n ns).text ++ [90]) = some (ofS n ns) :=
  read_text _ (ofS_wf n ns hn hs).1
/-- The text of a moment is canonical. -/
theorem instant_ofS (n ns : Nat) (hn : n < top) (hs : ns ≤ 999999999) : instant ((ofS n ns).text ++ [90]) = .ok ((ofS n ns).text ++ [90]) := by
  obtain ⟨h1, h2, h3⟩ := ofS_wf n ns hn hs
  unfold instant
  rw [ofS_read n ns hn hs]
  simp only
  rw [if_neg (show ¬ (ofS n ns).z = 0 by show ¬ (90 : UInt8) = 0; decide), h2, h3, if_neg (by decide)]
  unfold ofSeconds
  have e : (ofS n ns).ns = ns := rfl
  have e2 : ((n : Int) - epoch + epoch).toNat = n := by omega
  rw [e, if_neg (by omega), if_neg (by omega), e2, Int.toNat_natCast]
theorem ofSeconds_ok {n ns : Int} {t : List UInt8} (h : ofSeconds n ns = .ok t) : ∃ k j : Nat, k < top ∧ j ≤ 999999999 ∧ n = (k : Int) - epoch ∧ ns = j ∧ t = (ofS k j).text ++ [90] := by
  unfold ofSeconds at h
  split at h
  · cases h
  · split at h
    · cases h
    · simp only [R.ok.injEq] at h
      exact ⟨(n + epoch).toNat, ns.toNat, by omega, by omega, by omega, by omega, h.symm⟩
theorem ofSeconds_at (k j : Nat) (hk : k < top) (hj : j ≤ 999999999) : ofSeconds ((k : Int) - epoch) j = .ok ((ofS k j).text ++ [90]) := by
  unfold ofSeconds
  have e2 : ((k : Int) - epoch + epoch).toNat = k := by omega
  rw [if_neg (by omega), if_neg (by omega), e2, Int.toNat_natCast]
theorem instant_ok {L t : List UInt8} (h : instant L = .ok t) : ∃ k j : Nat, ∃ m, k < top ∧ j ≤ 999999999 ∧ read L = some m ∧ m.z ≠ 0 ∧ m.ranges = true ∧ m.secs = k ∧ m.ns = j ∧ t = (ofS k j).text ++ [90] := by
  unfold instant at h
  split at h
  · cases h
  · rename_i m hm
    split at h
    · cases h
    · split at h
      · cases h
      · rename_i hz hr
        obtain ⟨k, j, h1, h2, h3, h4, h5⟩ := ofSeconds_ok h
        exact ⟨k, j, m, h1, h2, hm, hz, by simpa using hr, by omega, by omega, h5⟩
theorem settle {L t : List UInt8} (h : instant L = .ok t) : instant t = .ok t := by
  obtain ⟨k, j, m, h1, h2, _, _, _, _, _, rfl⟩ := instant_ok h
  exact instant_ofS k j h1 h2
theorem ranges_bd {m : M} (h : m.ranges = true) : (m.date = true → dateOk m.y m.mo m.d) ∧ m.h ≤ 23 ∧ m.mi ≤ 59 ∧ m.s ≤ 59 ∧ m.zh ≤ 23 ∧ m.zm ≤ 59 := by
  unfold M.ranges at h
  simp only [Bool.and_eq_true, Bool.or_eq_true, Bool.not_eq_true', decide_eq_true_eq] at h
  obtain ⟨⟨⟨⟨⟨h1, h2⟩, h3⟩, h4⟩, h5⟩, h6⟩ := h
  refine ⟨fun hd => ?_, h2, h3, h4, h5, h6⟩
  rcases h1 with h1 | h1
  · rw [hd] at h1; cases h1
  · exact h1
theorem local_ok {L t : List UInt8} (h : localOf L = .ok t) : ∃ m, read L = some m ∧ m.z = 0 ∧ m.ranges = true ∧ t = m.text ∧ read t = some m ∧ localOf t = .ok t := by
  unfold localOf at h
  split at h
  · cases h
  · rename_i m hm
    split at h
    · cases h
    · split at h
      · cases h
      · rename_i hz hr
        have hz : m.z = 0 := Classical.byContradiction hz
        have hr : m.ranges = true := by simpa using hr
        simp only [R.ok.injEq] at h
        have hrd := read_rd hm
        have hb := ranges_bd hr
        have hzz := hrd.z
        have hzh : m.zh = 0 ∧ m.zm = 0 := by
          rcases hzz with h | h
          · exact h.2
          · rw [hz] at h
            rcases h.1 with h | h | h
            · exact absurd h.1 (by decide)
            · exact absurd h (by decide)
            · exact absurd h (by decide)
        have hwf : m.wf := ⟨hrd.some_, hrd.y, hrd.mo, hrd.d, by omega, by omega, by omega, hrd.ns, .inl hz, hzh.1, hzh.2, hrd.nodate, hrd.notime⟩
        have hrt := read_text m hwf
        have htl : m.tail = [] := by unfold M.tail; rw [if_pos hz]
        rw [htl, List.append_nil] at hrt
        subst h
        refine ⟨m, hm, hz, hr, rfl, hrt, ?_⟩
        unfold localOf
        rw [hrt]
        simp only
        rw [if_neg (by rw [hz]; decide), hr, if_neg (by decide)]
theorem instant_local {L : List UInt8} {t : List UInt8} (h : instant L = .ok t) : localOf L = .bad 3 := by
  obtain ⟨k, j, m, _, _, hm, hz, _⟩ := instant_ok h
  unfold localOf
  rw [hm]
  simp only
  rw [if_pos hz]
theorem local_instant {L : List UInt8} {t : List UInt8} (h : localOf L = .ok t) : instant L = .bad 3 := by
  obtain ⟨m, hm, hz, _⟩ := local_ok h
  unfold instant
  rw [hm]
  simp only
  rw [if_pos hz]
end Ins
