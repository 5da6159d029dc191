/-
  The plain law of instant: a text before a zone, and what the zone does.
-/
import Derived.Test.YtbficmdjblimfaaDoorIn4
namespace Ins
theorem num_agree : ∀ (n v : Nat) (l r : List UInt8), (∀ j, j < n → l[j]? = r[j]?) → num n v l = num n v r
  | 0, v, l, r, _ => rfl
  | n + 1, v, l, r, h => by
    have h0 := h 0 (by omega)
    cases l with
    | nil => cases r with
      | nil => rfl
      | cons d r => simp at h0
    | cons c l => cases r with
      | nil => simp at h0
      | cons d r =>
        simp only [List.getElem?_cons_zero, Option.some.injEq] at h0
        subst h0
        unfold num
        split
        · exact num_agree n _ l r (fun j hj => by have := h (j + 1) (by omega); simpa using this)
        · rfl
theorem numAt_agree {S T : List UInt8} {a n : Nat} (h : a + n ≤ S.length) : numAt (S ++ T) a n = numAt S a n := by
  unfold numAt
  apply num_agree
  intro j hj
  rw [List.getElem?_drop, List.getElem?_drop, List.getElem?_append_left (by omega)]
theorem isAt_agree {S T : List UInt8} {a : Nat} (c : UInt8) (h : a < S.length) : isAt (S ++ T) a c = isAt S a c := by
  unfold isAt
  rw [List.getElem?_append_left h]
theorem dateAt_agree {S T : List UInt8} (h : 10 ≤ S.length) : dateAt (S ++ T) 0 = dateAt S 0 := by
  unfold dateAt
  rw [numAt_agree (by omega), numAt_agree (by omega), numAt_agree (by omega), isAt_agree 45 (by omega), isAt_agree 45 (by omega)]
theorem hmsAt_agree {S T : List UInt8} {a : Nat} (h : a + 8 ≤ S.length) : hmsAt (S ++ T) a = hmsAt S a := by
  unfold hmsAt
  rw [numAt_agree (by omega), numAt_agree (by omega), numAt_agree (by omega), isAt_agree 58 (by omega), isAt_agree 58 (by omega)]
theorem run_app : ∀ (l T : List UInt8) (x : UInt8), dig x = false → run (l ++ x :: T) = run l
  | [], T, x, h => by unfold run; simp [h]
  | c :: l, T, x, h => by
    unfold run
    simp only [List.cons_append, List.takeWhile_cons]
    split
    · have := run_app l T x h
      unfold run at this
      simp [this]
    · rfl
theorem fracAt_agree {S T : List UInt8} {a : Nat} {x : UInt8} (h : a ≤ S.length) (hx : dig x = false) (hd : x ≠ 46) : fracAt (S ++ x :: T) a = fracAt S a := by
  have e : isAt (S ++ x :: T) a 46 = isAt S a 46 := by
    by_cases ha : a < S.length
    · exact isAt_agree 46 ha
    · have ha : a = S.length := by omega
      subst ha
      unfold isAt
      rw [List.getElem?_append_right (Nat.le_refl _), Nat.sub_self, List.getElem?_eq_none (Nat.le_refl _)]
      simp [hd]
  unfold fracAt
  rw [e]
  cases hi : isAt S a 46 with
  | false => rfl
  | true =>
    have ha : a < S.length := by
      apply Classical.byContradiction
      intro h2
      unfold isAt at hi
      rw [List.getElem?_eq_none (by omega)] at hi
      cases hi
    have ed : (S ++ x :: T).drop (a + 1) = S.drop (a + 1) ++ x :: T := by
      rw [List.drop_append, show a + 1 - S.length = 0 by omega]; rfl
    rw [ed, run_app _ _ _ hx, List.take_append, show run (List.drop (a + 1) S) - (List.drop (a + 1) S).length = 0 by have := run_le (List.drop (a + 1) S); omega]
    simp only [List.take_zero, List.append_nil]
theorem clockAt_agree {S T : List UInt8} {a : Nat} {x : UInt8} (h : a + 8 ≤ S.length) (hx : dig x = false) (hd : x ≠ 46) : clockAt (S ++ x :: T) a = clockAt S a := by
  unfold clockAt
  rw [hmsAt_agree h, fracAt_agree h hx hd]
/-- What stands ahead of a zone: date, clock, part of a second. -/
def preOf (S : List UInt8) : Option (Nat × Nat × Nat × Nat × Nat × Nat × Nat) :=
  match dateAt S 0, clockAt S 11 with
  | some (y, mo, d), some (h, mi, s, ns, b) => if (isAt S 10 84 || isAt S 10 32) && b == S.length then some (y, mo, d, h, mi, s, ns) else none
  | _, _ => none
theorem read_pre {S T : List UInt8} {x z : UInt8} {zh zm : Nat} (hx : dig x = false) (hd : x ≠ 46) (hz : zoneAt (S ++ x :: T) S.length = some (z, zh, zm, (S ++ x :: T).length))
    {y mo d h mi s ns : Nat} (hp : preOf S = some (y, mo, d, h, mi, s, ns)) : read (S ++ x :: T) = some ⟨true, true, y, mo, d, h, mi, s, ns, z, zh, zm⟩ := by
  unfold preOf at hp
  split at hp
  · rename_i y1 mo1 d1 h1 mi1 s1 ns1 b1 e1 e2
    split at hp
    · rename_i hc
      simp only [Bool.and_eq_true, beq_iff_eq] at hc
      obtain ⟨hT, rfl⟩ := hc
      simp only [Option.some.injEq, Prod.mk.injEq] at hp
      obtain ⟨rfl, rfl, rfl, rfl, rfl, rfl, rfl⟩ := hp
      have hb := clockAt_bd e2
      have hl : (S ++ x :: T).length = S.length + 1 + T.length := by simp; omega
      unfold read
      rw [dateAt_agree (by omega), e1, isAt_agree 84 (by omega), isAt_agree 32 (by omega), hT, clockAt_agree (a := 11) (by omega) hx hd, e2]
      simp only
      rw [if_neg (by omega), if_pos trivial, if_neg (by omega), hz]
      simp only
      rw [if_pos trivial]
    · cases hp
  · cases hp
theorem pre_read {S T : List UInt8} {x : UInt8} (hx : dig x = false) (hd : x ≠ 46) (hb : ∀ b z zh zm, zoneAt (S ++ x :: T) b = some (z, zh, zm, (S ++ x :: T).length) → b = S.length)
    {m : M} (hm : read (S ++ x :: T) = some m) (hz : m.z ≠ 0) : preOf S ≠ none := by
  unfold read at hm
  split at hm
  · split at hm
    · cases hm
    · split at hm
      · simp only [Option.some.injEq] at hm
        subst hm
        exact absurd rfl hz
      · cases hm
  · rename_i y mo d hdt
    split at hm
    · simp only [Option.some.injEq] at hm
      subst hm
      exact absurd rfl hz
    · split at hm
      · rename_i hT
        split at hm
        · cases hm
        · rename_i h mi s ns b hc
          split at hm
          · simp only [Option.some.injEq] at hm
            subst hm
            exact absurd rfl hz
          · split at hm
            · cases hm
            · rename_i z zh zm c hzo
              split at hm
              · rename_i hcl
                subst hcl
                have hbN := hb _ _ _ _ hzo
                subst hbN
                have hcb := clockAt_bd hc
                rw [clockAt_agree (by omega) hx hd] at hc
                rw [dateAt_agree (by omega)] at hdt
                rw [isAt_agree 84 (by omega), isAt_agree 32 (by omega)] at hT
                unfold preOf
                rw [hdt, hc]
                simp only
                rw [hT]
                simp
              · cases hm
      · cases hm
/-- The number of a text with a zone, by what stands ahead of the zone. -/
theorem instant_pre {S T : List UInt8} {x z : UInt8} {zh zm : Nat} (hx : dig x = false) (hd : x ≠ 46) (hz0 : z ≠ 0) (hz : zoneAt (S ++ x :: T) S.length = some (z, zh, zm, (S ++ x :: T).length))
    (hb : ∀ b z zh zm, zoneAt (S ++ x :: T) b = some (z, zh, zm, (S ++ x :: T).length) → b = S.length) :
    instant (S ++ x :: T) = match preOf S with
      | none => .bad 3
      | some (y, mo, d, h, mi, s, ns) => if !(⟨true, true, y, mo, d, h, mi, s, ns, z, zh, zm⟩ : M).ranges then .bad 13 else ofSeconds ((⟨true, true, y, mo, d, h, mi, s, ns, z, zh, zm⟩ : M).secs - epoch) ns := by
  cases hp : preOf S with
  | none =>
    simp only
    unfold instant
    split
    · rfl
    · rename_i m hm
      by_cases h0 : m.z = 0
      · rw [if_pos h0]
      · exact absurd hp (pre_read hx hd hb hm h0)
  | some p =>
    obtain ⟨y, mo, d, h, mi, s, ns⟩ := p
    simp only
    unfold instant
    rw [read_pre hx hd hz hp]
    simp only
    rw [if_neg hz0]
theorem zone_last {L : List UInt8} {b : Nat} {z : UInt8} {zh zm c : Nat} (h : zoneAt L b = some (z, zh, zm, c)) : (isAt L b 90 = true ∧ c = b + 1) ∨ (c = b + 6 ∧ ∃ e, L[b + 5]? = some e ∧ dig e = true) := by
  unfold zoneAt at h
  split at h
  · rename_i h1
    simp only [Option.some.injEq, Prod.mk.injEq] at h
    exact .inl ⟨h1, h.2.2.2.symm⟩
  · split at h
    · split at h
      · rename_i h1 h2
        split at h
        · simp only [Option.some.injEq, Prod.mk.injEq] at h
          exact .inr ⟨h.2.2.2.symm, numAt_dig h2 1 (by omega)⟩
        · cases h
      · cases h
    · cases h
theorem instant_z (S : List UInt8) : instant (S ++ [90]) = match preOf S with
      | none => .bad 3
      | some (y, mo, d, h, mi, s, ns) => if !(⟨true, true, y, mo, d, h, mi, s, ns, 90, 0, 0⟩ : M).ranges then .bad 13 else ofSeconds ((⟨true, true, y, mo, d, h, mi, s, ns, 90, 0, 0⟩ : M).secs - epoch) ns := by
  have hl : (S ++ [90]).length = S.length + 1 := by simp
  refine instant_pre (by decide) (by decide) (by decide) ?_ ?_
  · rw [hl]
    exact zone_z _ _ (by simp)
  · intro b z zh zm h
    rw [hl] at h
    rcases zone_last h with ⟨_, h2⟩ | ⟨h2, e, h3, h4⟩
    · omega
    · rw [show b + 5 = S.length by omega] at h3
      simp at h3
      subst h3
      cases h4
def zoneT (h m : Nat) : List UInt8 := [dg (h / 10), dg h, 58, dg (m / 10), dg m]
theorem instant_sg (S : List UInt8) (x : UInt8) (hx : x = 43 ∨ x = 45) (zh zm : Nat) (hh : zh ≤ 99) (hm : zm ≤ 99) : instant (S ++ x :: zoneT zh zm) = match preOf S with
      | none => .bad 3
      | some (y, mo, d, h, mi, s, ns) => if !(⟨true, true, y, mo, d, h, mi, s, ns, x, zh, zm⟩ : M).ranges then .bad 13 else ofSeconds ((⟨true, true, y, mo, d, h, mi, s, ns, x, zh, zm⟩ : M).secs - epoch) ns := by
  have hl : (S ++ x :: zoneT zh zm).length = S.length + 6 := by simp [zoneT]
  have hg : ∀ k, (S ++ x :: zoneT zh zm)[S.length + k]? = (x :: zoneT zh zm)[k]? := fun k => by rw [List.getElem?_append_right (by omega)]; congr 1; omega
  refine instant_pre (by rcases hx with rfl | rfl <;> decide) (by rcases hx with rfl | rfl <;> decide) (by rcases hx with rfl | rfl <;> decide) ?_ ?_
  · rw [hl]
    have g0 := hg 0
    have e90 : isAt (S ++ x :: zoneT zh zm) S.length 90 = false := by
      unfold isAt
      rw [Nat.add_zero] at g0
      rw [g0, List.getElem?_cons_zero]
      rcases hx with rfl | rfl <;> decide
    have e43 : (isAt (S ++ x :: zoneT zh zm) S.length 43 || isAt (S ++ x :: zoneT zh zm) S.length 45) = true := by
      unfold isAt
      rw [Nat.add_zero] at g0
      rw [g0, List.getElem?_cons_zero]
      rcases hx with rfl | rfl <;> decide
    have ex : (if isAt (S ++ x :: zoneT zh zm) S.length 43 then (43 : UInt8) else 45) = x := by
      unfold isAt
      rw [Nat.add_zero] at g0
      rw [g0, List.getElem?_cons_zero]
      rcases hx with rfl | rfl <;> decide
    have e58 : isAt (S ++ x :: zoneT zh zm) (S.length + 3) 58 = true := by
      unfold isAt
      rw [hg 3]
      rfl
    have dr : ∀ k, (S ++ x :: zoneT zh zm).drop (S.length + k) = (x :: zoneT zh zm).drop k := fun k => by rw [List.drop_append, List.drop_of_length_le (by omega)]; simp
    have n1 : numAt (S ++ x :: zoneT zh zm) (S.length + 1) 2 = some zh := by
      unfold numAt
      rw [dr]
      simp only [zoneT, List.drop_succ_cons, List.drop_zero, num, dg_dig, if_true, dg_dv]
      congr 1; omega
    have n2 : numAt (S ++ x :: zoneT zh zm) (S.length + 4) 2 = some zm := by
      unfold numAt
      rw [dr]
      simp only [zoneT, List.drop_succ_cons, List.drop_zero, num, dg_dig, if_true, dg_dv]
      congr 1; omega
    unfold zoneAt
    rw [e90, e43, n1, n2, e58, ex]
    rfl
  · intro b z zh2 zm2 h
    rw [hl] at h
    rcases zone_last h with ⟨h1, h2⟩ | ⟨h2, _⟩
    · have h3 := hg 5
      unfold isAt at h1
      rw [show b = S.length + 5 by omega, h3] at h1
      have h4 : dg zm = 90 := by simpa [zoneT] using h1
      have h5 := dg_dig zm
      rw [h4] at h5
      cases h5
    · omega
/-- A zone moves the moment by its hours and minutes; errors are those of the text in UTC. -/
theorem shift_law (S : List UInt8) (h m : Nat) (hh : h ≤ 23) (hm : m ≤ 59) :
    (∃ e, instant (S ++ [90]) = .bad e ∧ instant (S ++ 43 :: zoneT h m) = .bad e ∧ instant (S ++ 45 :: zoneT h m) = .bad e) ∨
    (∃ k j : Nat, k < top ∧ j ≤ 999999999 ∧ instant (S ++ [90]) = .ok ((ofS k j).text ++ [90]) ∧ instant (S ++ 43 :: zoneT h m) = ofSeconds ((k : Int) - epoch - (3600 * h + 60 * m : Nat)) j ∧ instant (S ++ 45 :: zoneT h m) = ofSeconds ((k : Int) - epoch + (3600 * h + 60 * m : Nat)) j) := by
  rw [instant_z, instant_sg S 43 (.inl rfl) h m (by omega) (by omega), instant_sg S 45 (.inr rfl) h m (by omega) (by omega)]
  cases hp : preOf S with
  | none => exact .inl ⟨3, rfl, rfl, rfl⟩
  | some p =>
    obtain ⟨y, mo, d, h1, mi, s, ns⟩ := p
    simp only
    have hns : ns ≤ 999999999 := by
      unfold preOf at hp
      split at hp
      · rename_i y1 mo1 d1 h1 mi1 s1 ns1 b1 e1 e2
        split at hp
        · simp only [Option.some.injEq, Prod.mk.injEq] at hp
          obtain ⟨rfl, rfl, rfl, rfl, rfl, rfl, rfl⟩ := hp
          exact (clockAt_bd e2).2.2.2.1
        · cases hp
      · cases hp
    have hr : ∀ z, (⟨true, true, y, mo, d, h1, mi, s, ns, z, h, m⟩ : M).ranges = (⟨true, true, y, mo, d, h1, mi, s, ns, 90, 0, 0⟩ : M).ranges := by
      intro z
      unfold M.ranges
      simp only
      rw [decide_eq_true hh, decide_eq_true hm, decide_eq_true (show 0 ≤ 23 by omega), decide_eq_true (show 0 ≤ 59 by omega)]
    rw [hr 43, hr 45]
    cases hR : (⟨true, true, y, mo, d, h1, mi, s, ns, 90, 0, 0⟩ : M).ranges with
    | false => exact .inl ⟨13, rfl, rfl, rfl⟩
    | true =>
      have hbd := ranges_bd hR
      have hdl := days_lt y mo d (hbd.1 rfl)
      obtain ⟨_, q1, q2, q3, _, _⟩ := hbd
      simp only at q1 q2 q3
      refine .inr ⟨days y mo d * 86400 + h1 * 3600 + mi * 60 + s, ns, by unfold top; omega, hns, ?_, ?_, ?_⟩
      · have e : (⟨true, true, y, mo, d, h1, mi, s, ns, 90, 0, 0⟩ : M).secs = ((days y mo d * 86400 + h1 * 3600 + mi * 60 + s : Nat) : Int) := by
          unfold M.secs
          simp only
          rw [if_neg (by decide)]
          omega
        rw [e, if_neg (by decide)]
        exact ofSeconds_at _ _ (by unfold top; omega) hns
      · have e : (⟨true, true, y, mo, d, h1, mi, s, ns, 43, h, m⟩ : M).secs - epoch = ((days y mo d * 86400 + h1 * 3600 + mi * 60 + s : Nat) : Int) - epoch - (3600 * h + 60 * m : Nat) := by
          unfold M.secs
          simp only
          rw [if_pos trivial]
          omega
        rw [e, if_neg (by decide)]
      · have e : (⟨true, true, y, mo, d, h1, mi, s, ns, 45, h, m⟩ : M).secs - epoch = ((days y mo d * 86400 + h1 * 3600 + mi * 60 + s : Nat) : Int) - epoch + (3600 * h + 60 * m : Nat) := by
          unfold M.secs
          simp only
          rw [if_neg (by decide)]
          omega
        rw [e, if_neg (by decide)]
end Ins
