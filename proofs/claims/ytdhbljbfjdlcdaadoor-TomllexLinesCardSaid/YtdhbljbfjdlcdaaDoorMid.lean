/-
  A region that draws its order: quiet operations, one call that makes memory, quiet operations in any order. No program stands in it.
-/
import Derived.Test.YtdhbljbfjdlcdaaDoorKit
namespace Go.Proofs.YtdhbljbfjdlcdaaDoor
open Go.RowKit
section
variable {P : Program} {ops : Array Oper} {md : Region.Mode} {C : World → Prop}
/-- Each operation behind n waits for one from n on that stands before it. -/
def backB (md : Region.Mode) (ops : Array Oper) (n : Nat) : Bool :=
  (List.range ops.size).all fun t => decide (t ≤ n) || (List.range t).any fun u => decide (n ≤ u) && Region.waitsFor md ops t u
theorem back_waits {n : Nat} {listed : Array Bool} (hs : Region.sinkB md ops n = true) (hc : backB md ops n = true) (inv : HeadInv md ops n listed) :
    ∀ (d i : Nat), n - i = d → i < n → listed.getD i true = false → ∀ t, n ≤ t → t ∉ Region.ready md ops listed := by
  intro d
  induction d using Nat.strongRecOn with
  | _ d ih =>
    intro i hd hi hun t ht hr
    obtain ⟨_, ot, hot, hall⟩ := mem_ready.1 hr
    have htlt : t < ops.size := (Array.getElem?_eq_some_iff.1 hot).1
    by_cases htn : t = n
    · subst htn
      have h1 := List.all_eq_true.1 hs i (List.mem_range.2 hi)
      obtain ⟨j, hj, hj2⟩ := List.any_eq_true.1 h1
      simp only [Bool.and_eq_true, decide_eq_true_eq] at hj2
      obtain ⟨oj, hoj, e, he, hb, hon⟩ := Region.waitsFor_spec hj2.2
      have hjle : j ≤ t := by have := List.mem_range.1 hj; omega
      by_cases hjt : j = t
      · subst hjt
        have : oj = ot := Option.some.inj (hoj.symm.trans hot)
        subst this
        have h2 := hall e he hb
        rw [hon, getD_both hun] at h2
        cases h2
      · cases hl : listed.getD j false with
        | true =>
          have h2 := inv.closed j oj hoj hl e he hb
          rw [hon, getD_both hun] at h2
          cases h2
        | false =>
          have hjs : j < listed.size := by rw [inv.size]; omega
          exact ih (t - j) (by omega) j rfl (by omega) (getD_in hjs hl) t (Nat.le_refl _) hr
    · have h1 := List.all_eq_true.1 hc t (List.mem_range.2 htlt)
      simp only [Bool.or_eq_true, decide_eq_true_eq] at h1
      rcases h1 with h1 | h1
      · omega
      · obtain ⟨u, hu, hu2⟩ := List.any_eq_true.1 h1
        simp only [Bool.and_eq_true, decide_eq_true_eq] at hu2
        obtain ⟨o', ho', e, he, hb, hon⟩ := Region.waitsFor_spec hu2.2
        have : o' = ot := Option.some.inj (ho'.symm.trans hot)
        subst this
        have hut := List.mem_range.1 hu
        have h2 := hall e he hb
        rw [hon, getD_both (inv.tail u hu2.1 (by omega))] at h2
        cases h2
theorem mid_first {n i : Nat} {oi : Oper} {v : Value} {L : Array Bool → Act → Prop} (hi : ops[i]? = some oi) (hsel : ∀ (j : Nat) (o : Oper) cs b, ops[j]? = some o → o.op ≠ .select cs b)
    (hs : Region.sinkB md ops n = true) (hc : backB md ops n = true) (hin : i < n) (hdone : ∀ listed a, L listed a → ∀ j ∈ Region.ready md ops listed, n ≤ j) :
    ∀ (f : Nat) (listed : Array Bool) (a : Act), HeadInv md ops n listed →
      (∀ j oj, ops[j]? = some oj → j ≠ i → listed.getD j true = false → (∀ e ∈ oj.after, Region.binds md e = true → e.on ≠ i) → oi.apart ops oj = true) →
      i ∈ Region.ready md ops listed → YieldsIn P ops C oi v a → headAll P md ops C n L f (listed.setIfInBounds i true) (a.put oi.dst v) → headAll P md ops C n L (f + 1) listed a := by
  intro f
  induction f with
  | zero =>
    intro listed a inv _ hr hy H
    have hun := (mem_ready.1 hr).1
    refine ⟨List.ne_nil_of_mem hr, fun j hj => ?_⟩
    have hjn : j < n := Nat.lt_of_not_le fun h => back_waits hs hc inv _ i rfl hin hun j h hj
    by_cases hji : j = i
    · subst hji; exact ⟨hjn, hy.qOp hi H⟩
    · have := hdone _ _ H j (ready_mono hj hji)
      omega
  | succ f ih =>
    intro listed a inv hfree hr hy H
    have hun := (mem_ready.1 hr).1
    refine ⟨List.ne_nil_of_mem hr, fun j hj => ?_⟩
    have hjn : j < n := Nat.lt_of_not_le fun h => back_waits hs hc inv _ i rfl hin hun j h hj
    refine ⟨hjn, ?_⟩
    by_cases hji : j = i
    · subst hji; exact hy.qOp hi H
    · have h1 := (H.2 j (ready_mono hj hji)).2
      obtain ⟨hjun, oj, hoj, hall⟩ := mem_ready.1 hj
      have hnot : ∀ e ∈ oj.after, Region.binds md e = true → e.on ≠ i := fun e he hb heq => by
        have h1 := hall e he hb
        rw [heq, getD_both hun] at h1
        cases h1
      refine qOp_mono (fun a' h3 => ih (listed.setIfInBounds j true) a' (inv.set hj hjn) ?_ (ready_mono hr (Ne.symm hji)) h3.1 (by rw [Array.setIfInBounds_comm _ _ hji]; exact h3.2))
        (qOp_put hoj (hfree j oj hoj hji hjun hnot) (fun cs b => hsel i oi cs b hi) (fun cs b => hsel j oj cs b hoj) hy h1)
      intro k ok hk hki hkun hno
      refine hfree k ok hk hki ?_ hno
      by_cases hjk : j = k
      · subst hjk; exact hjun
      · rwa [getD_set_ne true hjk] at hkun
def midHead (md : Region.Mode) (ops : Array Oper) (E : Array Bool → Bool) : Nat → Nat → Array Bool → Bool
  | 0, _, listed => E listed
  | f + 1, k, listed => (Region.ready md ops listed).contains k && Region.free md ops listed k && midHead md ops E f (k + 1) (listed.setIfInBounds k true)
theorem mid_lex {n : Nat} {E : Array Bool → Bool} {Lq : Act → Prop} (hE : ∀ listed, E listed = true → ∀ j ∈ Region.ready md ops listed, n ≤ j) (hsel : Region.noSelect ops = true) (hs : Region.sinkB md ops n = true) (hc : backB md ops n = true) :
    ∀ (l : List Oper) (k : Nat) (listed : Array Bool) (a : Act), (∀ j, j < l.length → l[j]? = ops[k + j]?) → k + l.length = n → HeadInv md ops n listed →
    midHead md ops E l.length k listed = true → wpQuiet P ops C Lq l a →
    headAll P md ops C n (fun listed' a' => E listed' = true ∧ Lq a') l.length listed a
  | [], k, listed, a, _, hk, _, hB, h => ⟨hB, h⟩
  | o :: l, k, listed, a, hl, hk, inv, hB, h => by
    have h0 : ops[k]? = some o := by simpa using (hl 0 (by simp)).symm
    simp only [List.length_cons, midHead, Bool.and_eq_true] at hB
    simp only [List.length_cons] at hk
    have hr : k ∈ Region.ready md ops listed := by simpa using hB.1.1
    have hq : qOp P ops C k (wpQuiet P ops C Lq l) a := by unfold qOp; simp only [h0]; exact h
    obtain ⟨v, hy, hK⟩ := yieldsIn_of_qOp h0 hq
    refine mid_first h0 (Region.noSelect_spec hsel) hs hc (by omega) (fun listed' a' hL => hE _ hL.1) l.length listed a inv (Region.free_spec h0 hB.1.2) hr hy ?_
    exact mid_lex hE hsel hs hc l (k + 1) _ _ (fun j hj => by have := hl (j + 1) (by simp; omega); simpa [Nat.add_assoc, Nat.add_comm 1 j] using this) (by omega) (inv.set hr (by omega)) hB.2 hK
def midEnd (md : Region.Mode) (ops : Array Oper) (n : Nat) (listed : Array Bool) : Bool :=
  decide (Region.ready md ops listed = [n]) && Region.lexFrom md ops (ops.size - n - 1) (n + 1) (listed.setIfInBounds n true)
def Region.midB (md : Region.Mode) (ops : Array Oper) (n : Nat) : Bool :=
  Region.noSelect ops && decide (n < ops.size) && Region.sinkB md ops n && backB md ops n && midHead md ops (midEnd md ops n) n 0 (Array.replicate ops.size false)
/-- The operation calls f with args. -/
def callsAt (P : Program) (o : Oper) (a : Act) (f : FuncId) (args : Array Value) : Prop :=
  o.guard = none ∧ ∃ c, o.op = .call c ∧ c.callee = .value (.func f) ∧ (c.args.toList.map a.eval).toArray = args ∧ ∀ w, (callFunc f args).run P w = .ok (.enter f args) w
theorem wp_of_calls {o : Oper} {a : Act} {w : World} {f : FuncId} {args : Array Value} {K : Act → World → Prop} {Q : Exit → Act → World → Prop} (hc : callsAt P o a f args)
    (h : Calls P f args w fun e w' => ∃ v, e = .returned v ∧ K (a.put o.dst v) w') : o.wp P a w K Q := by
  obtain ⟨hg, c, ho, hf, hargs0, hcf⟩ := hc
  have hargs : c.args.map a.eval = args := by
    rw [← hargs0]
    apply Array.ext'
    simp
  have hr : (execOp a.eval o).run P w = .ok (.enter f args) w := by
    have e : a.eval (.func f) = .func (.func f) #[] #[] := rfl
    have := hcf w
    unfold execOp
    simp [ho, resolve, hf, e, Deferred.ofValue, invoke, hargs, this]
  unfold Oper.wp
  rw [hr]
  refine h.mono ?_
  rintro e w' ⟨v, rfl, hK⟩
  exact hK
theorem wp_region_mid {id : Nat} {Q : Exit → Act → World → Prop} {a : Act} {w : World} {l : List Oper} (n : Nat) (hm : P.follows .mixedOrders = true) (hB : Region.midB .any l.toArray n = true)
    (h : wpQuiet P l.toArray (fun w' => w' = w.drew) (fun a' => ∃ o f args, l[n]? = some o ∧ callsAt P o a' f args ∧
      Calls P f args w.drew fun e w2 => ∃ v, e = .returned v ∧ wpQuiet P l.toArray (fun w' => w' = w2) (fun a3 => Q .normal a3 w2) (l.drop (n + 1)) (a'.put o.dst v)) (l.take n) a) : (Code.region id l.toArray true).wp P Q a w := by
  simp only [Region.midB, Bool.and_eq_true, decide_eq_true_eq] at hB
  have hn' : n < l.length := by simpa using hB.1.1.1.2
  have htl : (l.take n).length = n := by simp; omega
  have inv0 : HeadInv .any l.toArray n (Array.replicate l.toArray.size false) :=
    ⟨by simp, fun j oj _ hl => (by rw [getD_replicate_false] at hl; cases hl), fun t _ ht => getD_in (by simpa using ht) (getD_replicate_false _ _)⟩
  have hE : ∀ listed, midEnd .any l.toArray n listed = true → ∀ j ∈ Region.ready .any l.toArray listed, n ≤ j := by
    intro listed hl j hj
    simp only [midEnd, Bool.and_eq_true, decide_eq_true_eq] at hl
    rw [hl.1] at hj
    have : j = n := by simpa using hj
    omega
  have hhead := mid_lex (md := .any) hE hB.1.1.1.1 hB.1.1.2 hB.1.2 (l.take n) 0 _ a
    (fun j hj => by rw [htl] at hj; simp [hj]) (by rw [htl]; omega) inv0 (by rw [htl]; exact hB.2) h
  refine wp_region_any hm ?_
  have hsz : l.toArray.size = (l.take n).length + ((l.drop (n + 1)).length + 1) := by rw [htl]; simp; omega
  have hres := any_of_head (Q' := Q) (g := (l.drop (n + 1)).length + 1) (fun listed' a' w' (hw' : w' = w.drew) hL => by
    obtain ⟨hL1, o, f, args, ho, hca, hcl⟩ := hL
    simp only [midEnd, Bool.and_eq_true, decide_eq_true_eq] at hL1
    subst hw'
    refine ⟨fun h0 => (by rw [hL1.1] at h0; cases h0), fun i hi => ?_⟩
    rw [hL1.1] at hi
    obtain rfl : i = n := by simpa using hi
    unfold wpOp
    have ho2 : l.toArray[i]? = some o := by simpa using ho
    simp only [ho2]
    rw [if_pos (by simp [Region.wanted, hca.1])]
    refine Or.inl (wp_of_calls hca (hcl.mono ?_))
    rintro e w2 ⟨v, he, hq⟩
    refine ⟨v, he, ?_⟩
    refine wpAny_of_quiet (C := fun w' => w' = w2) (Q := fun a3 => Q .normal a3 w2) (fun a3 w3 hw3 h3 => by subst hw3; exact h3) _ _ _ w2 rfl ?_
    refine wpAnyQ_lex hB.1.1.1.1 (l.drop (i + 1)) (i + 1) _ _ (fun j => by simp [List.getElem?_drop]) ?_ hq
    have e1 : (l.drop (i + 1)).length = l.toArray.size - i - 1 := by simp; omega
    rw [e1]
    exact hL1.2) _ _ _ _ rfl hhead
  rw [← hsz] at hres
  exact hres
end
end Go.Proofs.YtdhbljbfjdlcdaaDoor
