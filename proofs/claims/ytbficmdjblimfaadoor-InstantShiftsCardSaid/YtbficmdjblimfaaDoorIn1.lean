/-
  The plain law of instant, second part: what is written is read back. No program stands in it.
-/
import Derived.Test.YtbficmdjblimfaaDoorIn0
namespace Ins
theorem dg_dig (k : Nat) : dig (dg k) = true := by
  have : ∀ j, j < 10 → dig (UInt8.ofNat (48 + j)) = true := by decide
  exact this _ (Nat.mod_lt _ (by decide))
theorem dg_dv (k : Nat) : dv (dg k) = k % 10 := by
  have : ∀ j, j < 10 → dv (UInt8.ofNat (48 + j)) = j := by decide
  exact this _ (Nat.mod_lt _ (by decide))
theorem dg_48 (k : Nat) : dg k = 48 ↔ k % 10 = 0 := by
  have : ∀ j, j < 10 → (UInt8.ofNat (48 + j) = 48 ↔ j = 0) := by decide
  exact this _ (Nat.mod_lt _ (by decide))
theorem pad_len : ∀ n x, (pad n x).length = n
  | 0, _ => rfl
  | n + 1, x => by simp [pad, pad_len n]
theorem pad_dig : ∀ n x, ∀ c ∈ pad n x, dig c = true
  | 0, _, c, h => by simp [pad] at h
  | n + 1, x, c, h => by
    rcases List.mem_append.1 h with h | h
    · exact pad_dig n _ c h
    · rw [List.mem_singleton.1 h]; exact dg_dig x
theorem val_app (l r : List UInt8) (v : Nat) : val v (l ++ r) = val (val v l) r := List.foldl_append
theorem val_nil (v : Nat) : val v [] = v := List.foldl_nil
theorem val_cons (v : Nat) (c : UInt8) (l : List UInt8) : val v (c :: l) = val (10 * v + dv c) l := List.foldl_cons ..
theorem val_one (v : Nat) (c : UInt8) : val v [c] = 10 * v + dv c := by rw [val_cons, val_nil]
theorem dv48 : dv 48 = 0 := by decide
theorem val_pad : ∀ n x, val 0 (pad n x) = x % 10 ^ n
  | 0, x => by rw [pad, val_nil, Nat.pow_zero, Nat.mod_one]
  | n + 1, x => by
    rw [pad, val_app, val_pad n, val_one, dg_dv, Nat.pow_succ, Nat.mul_comm (10 ^ n) 10, Nat.mod_mul, Nat.add_comm]
theorem val_zeros : ∀ (k v : Nat), val v (List.replicate k 48) = v * 10 ^ k
  | 0, v => by rw [List.replicate_zero, val_nil, Nat.pow_zero, Nat.mul_one]
  | k + 1, v => by
    rw [List.replicate_succ, val_cons, val_zeros k, Nat.pow_succ, dv48, Nat.add_zero, Nat.mul_comm 10 v, Nat.mul_assoc, Nat.mul_comm 10]
theorem dropWhile_split (p : UInt8 → Bool) : ∀ l : List UInt8, ∃ k, l = List.take k l ++ l.dropWhile p ∧ (∀ c ∈ List.take k l, p c = true) ∧ k ≤ l.length
  | [] => ⟨0, rfl, by simp, Nat.le_refl _⟩
  | c :: l => by
    by_cases hc : p c = true
    · obtain ⟨k, h1, h2, h3⟩ := dropWhile_split p l
      refine ⟨k + 1, ?_, ?_, by simp; omega⟩
      · rw [List.dropWhile_cons, if_pos hc, List.take_succ_cons, List.cons_append, ← h1]
      · intro d hd
        rw [List.take_succ_cons] at hd
        rcases List.mem_cons.1 hd with rfl | hd
        · exact hc
        · exact h2 d hd
    · exact ⟨0, by rw [List.dropWhile_cons, if_neg hc]; rfl, by simp, Nat.zero_le _⟩
theorem strip_split (l : List UInt8) : ∃ k, l = strip l ++ List.replicate k 48 ∧ (strip l).length + k = l.length := by
  obtain ⟨k, h1, h2, h3⟩ := dropWhile_split (· == 48) l.reverse
  have e : List.take k l.reverse = List.replicate k 48 := by
    rw [List.eq_replicate_iff]
    exact ⟨by rw [List.length_take, Nat.min_eq_left h3], fun c hc => by simpa using h2 c hc⟩
  refine ⟨k, ?_, ?_⟩
  · have := congrArg List.reverse h1
    rw [List.reverse_reverse, List.reverse_append, e, List.reverse_replicate] at this
    exact this
  · have := congrArg List.length h1
    rw [List.length_append, e, List.length_replicate, List.length_reverse] at this
    unfold strip
    rw [List.length_reverse]
    omega
theorem strip_frac (ns : Nat) (h : ns ≤ 999999999) : val 0 (strip (pad 9 ns)) * 10 ^ (9 - (strip (pad 9 ns)).length) = ns ∧ (strip (pad 9 ns)).length ≤ 9 ∧ (0 < ns → 1 ≤ (strip (pad 9 ns)).length) := by
  obtain ⟨k, h1, h2⟩ := strip_split (pad 9 ns)
  rw [pad_len] at h2
  have h3 := val_pad 9 ns
  rw [Nat.mod_eq_of_lt (show ns < 10 ^ 9 by omega)] at h3
  have h4 := congrArg (val 0) h1
  rw [val_app, val_zeros, h3] at h4
  have h3 := h4.symm
  clear h4
  have hk : 9 - (strip (pad 9 ns)).length = k := by omega
  refine ⟨by rw [hk]; exact h3, by omega, fun hp => ?_⟩
  apply Classical.byContradiction
  intro hn
  have : strip (pad 9 ns) = [] := List.eq_nil_of_length_eq_zero (by omega)
  rw [this] at h3
  rw [val_nil] at h3
  omega
theorem strip_dig (n x : Nat) : ∀ c ∈ strip (pad n x), dig c = true := by
  intro c hc
  obtain ⟨k, h1, _⟩ := strip_split (pad n x)
  refine pad_dig n x c ?_
  rw [h1]
  exact List.mem_append_left _ hc
theorem run_app_stop : ∀ (l r : List UInt8), (∀ c ∈ l, dig c = true) → (∀ c, r.head? = some c → dig c = false) → run (l ++ r) = l.length
  | [], [], _, _ => rfl
  | [], c :: r, _, h => by
    unfold run
    rw [List.nil_append, List.takeWhile_cons, if_neg (by rw [h c rfl]; decide)]
  | c :: l, r, h, h2 => by
    have ih := run_app_stop l r (fun d hd => h d (List.mem_cons_of_mem _ hd)) h2
    unfold run at *
    rw [List.cons_append, List.takeWhile_cons, if_pos (h c List.mem_cons_self), List.length_cons, ih, List.length_cons]
theorem date_form (y m d : Nat) : dateT y m d = [dg (y / 10 / 10 / 10), dg (y / 10 / 10), dg (y / 10), dg y, 45, dg (m / 10), dg m, 45, dg (d / 10), dg d] := rfl
theorem hms_form (h m s : Nat) : hmsT h m s = [dg (h / 10), dg h, 58, dg (m / 10), dg m, 58, dg (s / 10), dg s] := rfl
theorem date_read (y m d : Nat) (r : List UInt8) (hy : y ≤ 9999) (hm : m ≤ 99) (hd : d ≤ 99) : dateAt (dateT y m d ++ r) 0 = some (y, m, d) := by
  rw [date_form]
  have e1 : 10 * (10 * (10 * (10 * 0 + y / 10 / 10 / 10 % 10) + y / 10 / 10 % 10) + y / 10 % 10) + y % 10 = y := by omega
  have e2 : 10 * (10 * 0 + m / 10 % 10) + m % 10 = m := by omega
  have e3 : 10 * (10 * 0 + d / 10 % 10) + d % 10 = d := by omega
  simp only [dateAt, numAt, isAt, List.drop_succ_cons, List.drop_zero, List.cons_append, List.nil_append, num, dg_dig, if_true, dg_dv, List.getElem?_cons_succ, List.getElem?_cons_zero, e1, e2, e3]
  rfl
theorem hms_read (p : List UInt8) (a h m s : Nat) (r : List UInt8) (hp : p.length = a) (hh : h ≤ 99) (hm : m ≤ 99) (hs : s ≤ 99) : hmsAt (p ++ (hmsT h m s ++ r)) a = some (h, m, s) := by
  subst hp
  rw [hms_form]
  have e1 : 10 * (10 * 0 + h / 10 % 10) + h % 10 = h := by omega
  have e2 : 10 * (10 * 0 + m / 10 % 10) + m % 10 = m := by omega
  have e3 : 10 * (10 * 0 + s / 10 % 10) + s % 10 = s := by omega
  have g : ∀ (l : List UInt8) k, (p ++ l)[p.length + k]? = l[k]? := fun l k => by rw [List.getElem?_append_right (by omega)]; congr 1; omega
  have d0 : ∀ l : List UInt8, (p ++ l).drop p.length = l := fun l => by simp
  have d1 : ∀ (l : List UInt8) k, (p ++ l).drop (p.length + k) = l.drop k := fun l k => by rw [List.drop_append, List.drop_of_length_le (by omega)]; simp
  simp only [hmsAt, numAt, isAt, g, d0, d1, List.drop_succ_cons, List.drop_zero, List.cons_append, List.nil_append, num, dg_dig, if_true, dg_dv, List.getElem?_cons_succ, List.getElem?_cons_zero, e1, e2, e3]
  rfl
theorem frac_read (p : List UInt8) (a ns : Nat) (r : List UInt8) (hp : p.length = a) (hn : ns ≤ 999999999) (hr : ∀ c, r.head? = some c → dig c = false ∧ c ≠ 46) : fracAt (p ++ (fracT ns ++ r)) a = some (ns, a + (fracT ns).length) := by
  subst hp
  have g : ∀ (l : List UInt8), (p ++ l)[p.length]? = l.head? := fun l => by rw [List.getElem?_append_right (by omega), Nat.sub_self, List.head?_eq_getElem?]
  have d1 : ∀ (l : List UInt8) k, (p ++ l).drop (p.length + k) = l.drop k := fun l k => by rw [List.drop_append, List.drop_of_length_le (by omega)]; simp
  unfold fracAt fracT isAt
  rw [g]
  by_cases h0 : ns = 0
  · rw [if_pos h0, List.nil_append]
    have : (r.head? == some 46) = false := by
      cases r with
      | nil => rfl
      | cons c r => simpa using (hr c rfl).2
    rw [this, h0]
    rfl
  · rw [if_neg h0]
    obtain ⟨f1, f2, f3⟩ := strip_frac ns hn
    have hrun := run_app_stop (strip (pad 9 ns)) r (strip_dig 9 ns) (fun c hc => (hr c hc).1)
    rw [d1]
    have e : (46 :: strip (pad 9 ns) ++ r).drop 1 = strip (pad 9 ns) ++ r := rfl
    have e9 : ((46 :: strip (pad 9 ns) ++ r).head? == some 46) = true := by rw [List.cons_append, List.head?_cons]; rfl
    rw [e, hrun, if_pos e9, if_neg (by have := f3 (by omega); omega), List.take_left, f1, List.length_cons]
    generalize (strip (pad 9 ns)).length = k
    rw [show p.length + 1 + k = p.length + (k + 1) by omega]
/-- What stands behind the canonical text. -/
def M.tail (m : M) : List UInt8 := if m.z = 0 then [] else [90]
structure M.wf (m : M) : Prop where
  some_ : m.date = true ∨ m.time = true
  y : m.y ≤ 9999
  mo : m.mo ≤ 99
  d : m.d ≤ 99
  h : m.h ≤ 99
  mi : m.mi ≤ 99
  s : m.s ≤ 99
  ns : m.ns ≤ 999999999
  z : m.z = 0 ∨ m.z = 90 ∧ m.date = true ∧ m.time = true
  zh : m.zh = 0
  zm : m.zm = 0
  nodate : m.date = false → m.y = 0 ∧ m.mo = 0 ∧ m.d = 0
  notime : m.time = false → m.h = 0 ∧ m.mi = 0 ∧ m.s = 0 ∧ m.ns = 0
theorem clock_read (p : List UInt8) (a h m s ns : Nat) (r : List UInt8) (hp : p.length = a) (hh : h ≤ 99) (hm : m ≤ 99) (hs : s ≤ 99) (hn : ns ≤ 999999999) (hr : ∀ c, r.head? = some c → dig c = false ∧ c ≠ 46) :
    clockAt (p ++ (hmsT h m s ++ (fracT ns ++ r))) a = some (h, m, s, ns, a + 8 + (fracT ns).length) := by
  unfold clockAt
  rw [hms_read p a h m s _ hp hh hm hs]
  simp only
  rw [← List.append_assoc p, frac_read (p ++ hmsT h m s) (a + 8) ns r (by rw [List.length_append, hp, hms_form]; rfl) hn hr]
theorem tail_head (m : M) : ∀ c, m.tail.head? = some c → dig c = false ∧ c ≠ 46 := by
  intro c hc
  unfold M.tail at hc
  split at hc
  · simp at hc
  · simp only [List.head?_cons, Option.some.injEq] at hc
    subst hc
    decide
theorem date_none (h m s : Nat) (r : List UInt8) : dateAt (hmsT h m s ++ r) 0 = none := by
  rw [hms_form]
  have : dig 58 = false := by decide
  simp only [dateAt, numAt, List.drop_zero, List.cons_append, num, dg_dig, this, if_true, Bool.false_eq_true, if_false]
theorem read_text (m : M) (h : m.wf) : read (m.text ++ m.tail) = some m := by
  have ht := tail_head m
  cases hd : m.date with
  | false =>
    have htm : m.time = true := by rcases h.some_ with h1 | h1; rw [hd] at h1; cases h1; exact h1
    have hz : m.z = 0 := by rcases h.z with h1 | h1; exact h1; rw [hd] at h1; simp at h1
    have htl : m.tail = [] := by unfold M.tail; rw [if_pos hz]
    have hno := h.nodate hd
    have e : m.text ++ m.tail = hmsT m.h m.mi m.s ++ (fracT m.ns ++ []) := by
      unfold M.text
      rw [hd, htm, htl]
      simp
    rw [e]
    unfold read
    rw [date_none]
    simp only
    have hc := clock_read [] 0 m.h m.mi m.s m.ns [] rfl h.h h.mi h.s h.ns (by simp)
    rw [List.nil_append] at hc
    rw [hc]
    simp only
    rw [if_pos (by rw [hms_form]; simp only [List.length_append, List.length_cons, List.length_nil]; omega)]
    obtain ⟨date, time, y, mo, d, hh, mi, s, ns, z, zh, zm⟩ := m
    have := h.zh
    have := h.zm
    simp only at *
    subst_vars
    obtain ⟨rfl, rfl, rfl⟩ := hno
    rfl
  | true =>
    cases htm : m.time with
    | false =>
      have hz : m.z = 0 := by rcases h.z with h1 | h1; exact h1; rw [htm] at h1; simp at h1
      have htl : m.tail = [] := by unfold M.tail; rw [if_pos hz]
      have hno := h.notime htm
      have e : m.text ++ m.tail = dateT m.y m.mo m.d ++ [] := by
        unfold M.text
        rw [hd, htm, htl, hno.2.2.2]
        simp [fracT]
      rw [e]
      unfold read
      rw [date_read m.y m.mo m.d [] h.y h.mo h.d]
      simp only
      rw [if_pos (by rw [date_form]; rfl)]
      obtain ⟨date, time, y, mo, d, hh, mi, s, ns, z, zh, zm⟩ := m
      have := h.zh
      have := h.zm
      simp only at *
      subst_vars
      obtain ⟨rfl, rfl, rfl, rfl⟩ := hno
      rfl
    | true =>
      have e : m.text ++ m.tail = dateT m.y m.mo m.d ++ 84 :: (hmsT m.h m.mi m.s ++ (fracT m.ns ++ m.tail)) := by
        unfold M.text
        rw [hd, htm]
        simp
      have e2 : dateT m.y m.mo m.d ++ 84 :: (hmsT m.h m.mi m.s ++ (fracT m.ns ++ m.tail)) = (dateT m.y m.mo m.d ++ [84]) ++ (hmsT m.h m.mi m.s ++ (fracT m.ns ++ m.tail)) := by simp
      rw [e]
      unfold read
      rw [date_read m.y m.mo m.d _ h.y h.mo h.d]
      have hc := clock_read (dateT m.y m.mo m.d ++ [84]) 11 m.h m.mi m.s m.ns m.tail rfl h.h h.mi h.s h.ns ht
      rw [← e2] at hc
      have hl : (dateT m.y m.mo m.d ++ 84 :: (hmsT m.h m.mi m.s ++ (fracT m.ns ++ m.tail))).length = 19 + (fracT m.ns).length + m.tail.length := by
        rw [date_form, hms_form]
        simp only [List.length_append, List.length_cons, List.length_nil]
        omega
      have h84 : isAt (dateT m.y m.mo m.d ++ 84 :: (hmsT m.h m.mi m.s ++ (fracT m.ns ++ m.tail))) 10 84 = true := by
        rw [date_form]; rfl
      simp only
      rw [if_neg (by omega), h84, Bool.true_or, if_pos rfl, hc]
      simp only
      rcases h.z with hz | ⟨hz, _⟩
      · have htl : m.tail = [] := by unfold M.tail; rw [if_pos hz]
        rw [if_pos (by rw [hl, htl]; simp only [List.length_nil]; omega)]
        obtain ⟨date, time, y, mo, d, hh, mi, s, ns, z, zh, zm⟩ := m
        have := h.zh
        have := h.zm
        simp only at *
        subst_vars
        rfl
      · have htl : m.tail = [90] := by unfold M.tail; rw [if_neg (by rw [hz]; decide)]
        have h90 : isAt (dateT m.y m.mo m.d ++ 84 :: (hmsT m.h m.mi m.s ++ (fracT m.ns ++ m.tail))) (11 + 8 + (fracT m.ns).length) 90 = true := by
          rw [htl, show dateT m.y m.mo m.d ++ 84 :: (hmsT m.h m.mi m.s ++ (fracT m.ns ++ [90])) = (dateT m.y m.mo m.d ++ 84 :: (hmsT m.h m.mi m.s ++ fracT m.ns)) ++ [90] by simp]
          unfold isAt
          rw [List.getElem?_append_right (by rw [date_form, hms_form]; simp; omega)]
          rw [date_form, hms_form]
          simp [show 11 + 8 + (fracT m.ns).length - ((fracT m.ns).length + 8 + 11) = 0 by omega]
        rw [if_neg (by rw [hl, htl]; simp only [List.length_cons, List.length_nil]; omega)]
        unfold zoneAt
        rw [h90, if_pos rfl]
        simp only
        rw [if_pos (by rw [hl, htl]; simp only [List.length_cons, List.length_nil])]
        obtain ⟨date, time, y, mo, d, hh, mi, s, ns, z, zh, zm⟩ := m
        have := h.zh
        have := h.zm
        simp only at *
        subst_vars
        rfl
end Ins
