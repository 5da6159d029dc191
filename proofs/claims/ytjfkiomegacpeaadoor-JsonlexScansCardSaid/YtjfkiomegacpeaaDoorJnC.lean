/-
  ref04's Numeral by its contract: whether a string is a numeral.
-/
import Derived.Test.YtjfkiomegacpeaaDoorJnB
import Derived.Deep.CutRange
namespace Go.Proofs.YtjfkiomegacpeaaDoor
open Go.RowKit
abbrev zDb (w : World) : World := w.alloc (.cells #[.bool false, .slice none 0 0, .int .i64 0] 46)
def RetNm (w : World) (b : Bool) (e : Go.Ending) (w' : World) : Prop := (∃ (neg : Bool) (v : Value) (x : Int), e = .returned (.tuple #[.agg #[.bool neg, v, .int .i64 x], .bool b]) ∧ v.oneCell' = true) ∧ Below w.heap.size w w'
theorem wpList_push_nats {P : Program} {w : World} {ops : Array Oper} {rest : List Oper} {o : Oper} {a : Act} {Q : Exit → Act → World → Prop} (hgd : o.guard = none) (s x : Operand) (t : TypeId) (ho : o.op = .call { callee := .builtin .append, args := #[s, x], argTypes := #[t, t] })
    (e : TypeId) (hE : ElemRow P t e (.int .i64 0) 1 8) (base : Nat) (v : Value) (l : List Nat) (g m c : Nat) (news : List Nat)
    (hs : a.eval s = v) (hx : a.eval x = .slice (some ⟨g, 0, none⟩) m c) (hown : OwnN w base e v l) (hm : news.length = m) (hc : ∀ j, j < m → w.cell? ⟨g, j, none⟩ = some (.int .i64 (news.getD j 0 : Nat)))
    (hn : l.length + m < 1099511627776) (hbase : base ≤ w.heap.size)
    (h : ∀ v' w', OwnN w' base e v' (l ++ news) → Below base w w' → wpList P ops Q rest (a.put o.dst v') w') : wpList P ops Q (o :: rest) a w :=
  wpList_append_many hgd s x t ho e _ 1 8 hE base v l.length (natVals l) g m c (natVals news) hs hx hown (by unfold natVals; rw [List.length_map, hm, Nat.mul_one])
    (fun j u hu => by
      unfold natVals at hu
      rw [List.getElem?_map] at hu
      cases hj : news[j]? with
      | none => rw [hj] at hu; cases hu
      | some y =>
        rw [hj] at hu
        simp only [Option.map_some, Option.some.injEq] at hu
        subst hu
        have hjl := (List.getElem?_eq_some_iff.1 hj).1
        rw [hc j (by omega), List.getD_eq_getElem?_getD, hj]
        rfl)
    (fun u hu => by unfold natVals at hu; obtain ⟨y, _, rfl⟩ := List.mem_map.1 hu; rfl) (by omega) (by omega) hbase (fun v' w' h2 _ h4 => h v' w' (by unfold OwnN natVals; rw [List.length_append, List.map_append, hm]; exact h2) h4)
theorem num_neg {s : ByteArray} (h : 0 < s.size) (h2 : s[0] = 45) : Jsn.numeral s.data.toList = Jsn.whole (s.data.toList.drop 1) := by
  have e := drop_at s 0 h
  rw [List.drop_zero, h2] at e
  unfold Jsn.numeral
  rw [e]
  rfl
theorem num_pos {s : ByteArray} (h : ∀ h : 0 < s.size, s[0] ≠ 45) : Jsn.numeral s.data.toList = Jsn.whole (s.data.toList.drop 0) := by
  rw [List.drop_zero]
  unfold Jsn.numeral
  have : (s.data.toList.head? == some 45) = false := by
    by_cases hz : 0 < s.size
    · have e := drop_at s 0 hz
      rw [List.drop_zero] at e
      rw [e, List.head?_cons, beq_eq_false_iff_ne]
      exact fun h2 => h hz (Option.some.inj h2)
    · rw [show s.data.toList = [] from List.eq_nil_of_length_eq_zero (by rw [size_toList]; omega)]
      rfl
  rw [this]
  rfl
theorem whole_at {s : ByteArray} {p n : Nat} (hn : n = Jsn.run Jsn.dig (s.data.toList.drop p)) : Jsn.whole (s.data.toList.drop p) = if n = 0 ∨ (1 < n ∧ (s.data.toList.drop p).head? = some 48) then false else Jsn.frac (s.data.toList.drop (p + n)) := by
  unfold Jsn.whole
  rw [← hn, List.drop_drop]
  simp only [Bool.or_eq_true, Bool.and_eq_true, beq_iff_eq, decide_eq_true_eq]
theorem head_drop {s : ByteArray} {p : Nat} (h : p < s.size) : (s.data.toList.drop p).head? = some s[p] := by rw [drop_at s p h]; rfl
theorem frac_dot {s : ByteArray} {p m : Nat} (h : p < s.size) (h2 : s[p] = 46) (hm : m = Jsn.run Jsn.dig (s.data.toList.drop (p + 1))) : Jsn.frac (s.data.toList.drop p) = if m = 0 then false else Jsn.expo (s.data.toList.drop (p + 1 + m)) := by
  rw [drop_at s p h, h2]
  show (Jsn.run Jsn.dig (s.data.toList.drop (p + 1)) != 0 && Jsn.expo ((s.data.toList.drop (p + 1)).drop (Jsn.run Jsn.dig (s.data.toList.drop (p + 1))))) = _
  rw [← hm, List.drop_drop]
  by_cases h0 : m = 0
  · rw [if_pos h0, h0]; rfl
  · rw [if_neg h0, bne_iff_ne.2 h0, Bool.true_and]
theorem frac_no {s : ByteArray} {p : Nat} (h : ∀ h : p < s.size, s[p] ≠ 46) : Jsn.frac (s.data.toList.drop p) = Jsn.expo (s.data.toList.drop p) := by
  by_cases hp : p < s.size
  · rw [drop_at s p hp]
    unfold Jsn.frac
    split
    · rename_i heq
      injection heq with h1 h2
      exact absurd h1 (h hp)
    · rfl
  · rw [List.drop_of_length_le (by rw [size_toList]; omega)]; rfl
theorem expo_nil {s : ByteArray} {p : Nat} (h : s.size ≤ p) : Jsn.expo (s.data.toList.drop p) = true := by
  rw [List.drop_of_length_le (by rw [size_toList]; omega)]; rfl
theorem expo_no {s : ByteArray} {p : Nat} (h : p < s.size) (h1 : s[p] ≠ 101) (h2 : s[p] ≠ 69) : Jsn.expo (s.data.toList.drop p) = false := by
  have e : (s[p] == 101 || s[p] == 69) = false := by rw [beq_eq_false_iff_ne.2 h1, beq_eq_false_iff_ne.2 h2]; rfl
  rw [drop_at s p h]
  unfold Jsn.expo
  simp only [e, Bool.false_and]
/-- The digits of an exponent. -/
def tl (l : List UInt8) : Bool := !l.isEmpty && Jsn.run Jsn.dig l == l.length
theorem expo_sign {s : ByteArray} {p : Nat} (h : p < s.size) (h1 : s[p] = 101 ∨ s[p] = 69) (hq : p + 1 < s.size) (h2 : s[p + 1] = 43 ∨ s[p + 1] = 45) : Jsn.expo (s.data.toList.drop p) = tl (s.data.toList.drop (p + 2)) := by
  rw [drop_at s p h, drop_at s (p + 1) hq]
  unfold Jsn.expo tl
  rcases h1 with h1 | h1 <;> rcases h2 with h2 | h2 <;> rw [h1, h2] <;> rfl
theorem expo_none {s : ByteArray} {p : Nat} (h : p < s.size) (h1 : s[p] = 101 ∨ s[p] = 69) (h2 : ∀ hq : p + 1 < s.size, s[p + 1] ≠ 43 ∧ s[p + 1] ≠ 45) : Jsn.expo (s.data.toList.drop p) = tl (s.data.toList.drop (p + 1)) := by
  rw [drop_at s p h]
  unfold Jsn.expo tl
  have : ((s.data.toList.drop (p + 1)).head? == some 45 || (s.data.toList.drop (p + 1)).head? == some 43) = false := by
    by_cases hq : p + 1 < s.size
    · rw [head_drop hq]
      have a := h2 hq
      rw [Bool.or_eq_false_iff]
      exact ⟨beq_eq_false_iff_ne.2 fun e => a.2 (Option.some.inj e), beq_eq_false_iff_ne.2 fun e => a.1 (Option.some.inj e)⟩
    · rw [List.drop_of_length_le (by rw [size_toList]; omega)]; rfl
  have e : (s[p] == 101 || s[p] == 69) = true := by
    rw [Bool.or_eq_true, beq_iff_eq, beq_iff_eq]
    exact h1
  simp only [e, this, Bool.false_eq_true, if_false, Bool.true_and]
theorem tl_at {s : ByteArray} {p m : Nat} (hp : p ≤ s.size) (hm : m = Jsn.run Jsn.dig (s.data.toList.drop p)) : tl (s.data.toList.drop p) = (decide (m ≠ 0) && decide (p + m = s.size)) := by
  have hl : (s.data.toList.drop p).length = s.size - p := by rw [List.length_drop, size_toList]
  have hle := Jsn.run_le Jsn.dig (s.data.toList.drop p)
  unfold tl
  rw [← hm, hl]
  rw [← hm, hl] at hle
  by_cases h0 : m = 0
  · rw [h0]
    cases hd : s.data.toList.drop p with
    | nil => rfl
    | cons a l =>
      have : s.size - p ≠ 0 := by rw [← hl, hd]; simp
      have e : (0 == s.size - p) = false := beq_eq_false_iff_ne.2 (Ne.symm this)
      rw [e]; rfl
  · have hne : (s.data.toList.drop p).isEmpty = false := by
      cases hd : s.data.toList.drop p with
      | nil => rw [hd] at hl; simp at hl; omega
      | cons a l => rfl
    rw [hne, decide_eq_true h0, Bool.eq_iff_iff]
    simp only [Bool.not_false, Bool.true_and, beq_iff_eq, decide_eq_true_eq]
    omega
end Go.Proofs.YtjfkiomegacpeaaDoor
