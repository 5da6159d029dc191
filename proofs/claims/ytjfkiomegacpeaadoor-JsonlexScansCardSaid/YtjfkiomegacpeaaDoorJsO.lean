/-
  jsonlex.Scan at every source, in one form; the rows that it hands back; the law's examples.
-/
import Derived.Test.YtjfkiomegacpeaaDoorJsL
namespace Go.Proofs.YtjfkiomegacpeaaDoor
open Go.RowKit
/-- v is a slice of n elements of 'size' cells each that reads as xs. -/
def RowR (w : World) (size : Nat) (v : Value) (n : Nat) (xs : List Value) : Prop := ∃ ao cap, v = .slice ao n cap ∧ n ≤ cap ∧ (0 < n → ∃ g, ao = some ⟨g, 0, none⟩ ∧ ∀ k, k < n * size → w.cell? ⟨g, k, none⟩ = xs[k]?)
theorem row_form {w : World} {base n size : Nat} {e : TypeId} {v : Value} {xs : List Value} (h : w.ownsRow base e size v n xs) : RowR w size v n xs := by
  have hh := h
  rcases h.2 with ⟨hv, h0⟩ | ⟨g, cap, cur, hv, hbg, hg, hnc, r⟩
  · subst h0
    exact ⟨none, 0, hv, Nat.le_refl _, fun h => absurd h (Nat.lt_irrefl 0)⟩
  · subst hv
    exact ⟨some ⟨g, 0, none⟩, cap, rfl, hnc, fun _ => ⟨g, rfl, fun k hk => World.ownsRow.cellAt hh k hk⟩⟩
theorem flat_get {α : Type} (f : α → List Value) (m : Nat) (hf : ∀ a, (f a).length = m) : ∀ (l : List α) (i j : Nat) (a : α), l[i]? = some a → j < m → (l.flatMap f)[i * m + j]? = (f a)[j]?
  | [], i, j, a, h, _ => by simp at h
  | b :: l, 0, j, a, h, hj => by
    simp at h
    subst h
    rw [List.flatMap_cons, Nat.zero_mul, Nat.zero_add, List.getElem?_append_left (by rw [hf]; exact hj)]
  | b :: l, i + 1, j, a, h, hj => by
    rw [List.flatMap_cons, List.getElem?_append_right (by rw [hf, Nat.succ_mul]; omega), hf]
    have e : (i + 1) * m + j - m = i * m + j := by rw [Nat.succ_mul]; omega
    rw [e]
    exact flat_get f m hf l i j a (by simpa using h) hj
theorem tokCells_len (t : Jsn.T) : (tokCells t).length = 4 := rfl
theorem noteCells_len (t : Jsn.Note) : (noteCells t).length = 3 := rfl
/-- What Scan answers: tokens, comments, the offset and the number of an error. -/
structure Out where
  toks : List Jsn.T
  notes : List Jsn.Note
  at_ : Nat
  code : Nat
def outOf (l : List UInt8) : Out :=
  match chk (l.length + 1) 0 l with
  | some p => ⟨[], [], p, 11⟩
  | none => match Jsn.scan l with
    | .ok T N => ⟨T, N, 0, 0⟩
    | .bad e n => ⟨[], [], n, e⟩
def RetO (w : World) (o : Out) (e : Go.Ending) (w' : World) : Prop := (∃ tv nv, e = .returned (.tuple #[tv, nv, .int .i64 (o.at_ : Int), .int .i64 (o.code : Int)]) ∧ OwnTok w' w.heap.size tv o.toks ∧ OwnNote w' w.heap.size nv o.notes) ∧ Below w.heap.size w w'
theorem scan_out (s : ByteArray) (w : World) (hs : s.size ≤ 65536) (hE : EnvJ w) :
    Calls Tryd.prog 10 #[.string s] w (RetO w (outOf s.data.toList)) := by
  unfold outOf
  rw [size_toList]
  cases h : chk (s.size + 1) 0 s.data.toList with
  | some p =>
    exact (scan_text s w hs hE.u8 p h).mono fun e w' ⟨he, hb⟩ => ⟨⟨_, _, he, World.ownsRow_nil _ _ _ _, World.ownsRow_nil _ _ _ _⟩, hb⟩
  | none =>
    have hg := scan_good s w hs hE h
    simp only
    cases h2 : Jsn.scan s.data.toList with
    | ok T N =>
      rw [h2] at hg
      exact hg.mono fun e w' h => h
    | bad c n =>
      rw [h2] at hg
      exact hg.mono fun e w' ⟨he, hb⟩ => ⟨⟨_, _, he, World.ownsRow_nil _ _ _ _, World.ownsRow_nil _ _ _ _⟩, hb⟩
/-- The number of an error of a scan is not 0. -/
theorem token_code : ∀ (l : List UInt8) (c n : Nat), Jsn.token l = .bad c n → c ≠ 0 := by
  intro l c n h
  unfold Jsn.token at h
  split at h
  · simp at h
  · split at h
    · cases hq : Jsn.quo l.length 1 [] (l.drop 1) with
      | ok t m => rw [hq] at h; simp [Jsn.qtok] at h
      | bad e m =>
        rw [hq] at h
        simp only [Jsn.qtok, Jsn.Tok.bad.injEq] at h
        have := quo_bad0 _ _ _ _ _ _ hq
        omega
    · split at h
      · unfold Jsn.sequence at h
        repeat' split at h
        all_goals first
          | (simp only [Jsn.Tok.bad.injEq] at h; omega)
          | simp at h
      · simp only [Jsn.Tok.bad.injEq] at h; omega
theorem scan_code : ∀ (k : Nat) (l : List UInt8), l.length ≤ k → ∀ c n, Jsn.scan l = .bad c n → c ≠ 0 := by
  intro k
  induction k with
  | zero =>
    intro l hl c n h
    obtain rfl : l = [] := List.eq_nil_of_length_eq_zero (by omega)
    simp [Jsn.scan_nil] at h
  | succ k ih =>
    intro l hl c n h
    cases l with
    | nil => simp [Jsn.scan_nil] at h
    | cons a r =>
      have happ : ∀ (R : Jsn.Res) (p : Nat) ts ns, R.app p ts ns = .bad c n → ∃ n', R = .bad c n' := fun R p ts ns hh => by
        cases R with
        | ok T N => simp [Jsn.Res.app] at hh
        | bad e m => simp only [Jsn.Res.app, Jsn.Res.bad.injEq] at hh; exact ⟨m, by rw [hh.1]⟩
      rw [Jsn.scan_cons] at h
      cases hst : Jsn.step (a :: r) with
      | skip =>
        rw [hst] at h
        obtain ⟨n', h'⟩ := happ _ _ _ _ h
        exact ih r (by simpa using hl) _ _ h'
      | note m =>
        rw [hst] at h
        obtain ⟨n', h'⟩ := happ _ _ _ _ h
        have hm := (Jsn.step_note hst).1
        exact ih _ (by rw [List.length_drop]; omega) _ _ h'
      | tok kk m t =>
        rw [hst] at h
        obtain ⟨n', h'⟩ := happ _ _ _ _ h
        have hm := (Jsn.step_tok (by simp) hst).1
        exact ih _ (by rw [List.length_drop]; omega) _ _ h'
      | bad e m =>
        rw [hst] at h
        simp only [Jsn.Res.bad.injEq] at h
        obtain ⟨rfl, rfl⟩ := h
        unfold Jsn.step at hst
        split at hst
        · simp at hst
        · split at hst
          · simp only [Jsn.Step.bad.injEq] at hst; omega
          · cases ht : Jsn.token (a :: r) with
            | ok x y z => rw [ht] at hst; simp [Jsn.tstep] at hst
            | bad x y =>
              rw [ht] at hst
              simp only [Jsn.tstep, Jsn.Step.bad.injEq] at hst
              have := token_code _ _ _ ht
              omega
          · simp at hst
theorem outOf_ok {l : List UInt8} (h : (outOf l).code = 0) : ∃ T N, Snd l ∧ Jsn.scan l = .ok T N ∧ outOf l = ⟨T, N, 0, 0⟩ := by
  unfold outOf at *
  cases hc : chk (l.length + 1) 0 l with
  | some p => rw [hc] at h; simp at h
  | none =>
    rw [hc] at h
    simp only at h ⊢
    cases hs : Jsn.scan l with
    | ok T N => exact ⟨T, N, hc, rfl, rfl⟩
    | bad e n => rw [hs] at h; exact absurd h (scan_code _ _ (Nat.le_refl _) _ _ hs)
theorem outOf_mk {l : List UInt8} {T : List Jsn.T} {N : List Jsn.Note} (h1 : Snd l) (h2 : Jsn.scan l = .ok T N) : outOf l = ⟨T, N, 0, 0⟩ := by
  unfold outOf
  unfold Snd at h1
  rw [h1, h2]
theorem outOf_bad {l : List UInt8} {e n : Nat} (h1 : Snd l) (h2 : Jsn.scan l = .bad e n) : outOf l = ⟨[], [], n, e⟩ := by
  unfold outOf
  unfold Snd at h1
  rw [h1, h2]
/-- Rows that are read: the address, the number of elements, what stands there. -/
def RowAt (w : World) (size : Nat) (ao : Option Addr) (n : Nat) (xs : List Value) : Prop := 0 < n → ∃ g, ao = some ⟨g, 0, none⟩ ∧ g < w.heap.size ∧ ∀ k, k < n * size → w.cell? ⟨g, k, none⟩ = xs[k]?
theorem RowAt.keep {w w' : World} {size : Nat} {ao : Option Addr} {n : Nat} {xs : List Value} (h : RowAt w size ao n xs) (hb : Below w.heap.size w w') : RowAt w' size ao n xs := by
  intro hn
  obtain ⟨g, h1, h2, h3⟩ := h hn
  exact ⟨g, h1, Nat.lt_of_lt_of_le h2 hb.size, fun k hk => by rw [hb.cell (p := ⟨g, k, none⟩) h2]; exact h3 k hk⟩
theorem row_at {w : World} {base n size : Nat} {e : TypeId} {v : Value} {xs : List Value} (h : w.ownsRow base e size v n xs) : ∃ ao cap, v = .slice ao n cap ∧ n ≤ cap ∧ RowAt w size ao n xs := by
  have hh := h
  rcases h.2 with ⟨hv, h0⟩ | ⟨g, cap, cur, hv, hbg, hg, hnc, r⟩
  · subst h0
    exact ⟨none, 0, hv, Nat.le_refl _, fun h => absurd h (Nat.lt_irrefl 0)⟩
  · subst hv
    exact ⟨some ⟨g, 0, none⟩, cap, rfl, hnc, fun _ => ⟨g, rfl, (hh.lt g rfl).2, fun k hk => World.ownsRow.cellAt hh k hk⟩⟩
/-- Token k of a row. -/
theorem RowAt.tok {w : World} {ao : Option Addr} {n : Nat} {ts : List Jsn.T} (h : RowAt w 4 ao n (ts.flatMap tokCells)) (k : Nat) (t : Jsn.T) (hk : k < n) (ht : ts[k]? = some t) : ∃ g, ao = some ⟨g, 0, none⟩ ∧ g < w.heap.size ∧ w.cell? ⟨g, k * 4, none⟩ = some (.int .i64 (t.kind : Int)) ∧ w.cell? ⟨g, k * 4 + 1, none⟩ = some (.int .i64 (t.frm : Int)) ∧ w.cell? ⟨g, k * 4 + 2, none⟩ = some (.int .i64 (t.to : Int)) ∧ w.cell? ⟨g, k * 4 + 3, none⟩ = some (.string ⟨t.text.toArray⟩) := by
  obtain ⟨g, h1, h2, h3⟩ := h (by omega)
  have e := fun j hj => flat_get tokCells 4 tokCells_len ts k j t ht hj
  exact ⟨g, h1, h2, (h3 (k * 4 + 0) (by omega)).trans (e 0 (by omega)), (h3 (k * 4 + 1) (by omega)).trans (e 1 (by omega)), (h3 (k * 4 + 2) (by omega)).trans (e 2 (by omega)), (h3 (k * 4 + 3) (by omega)).trans (e 3 (by omega))⟩
theorem RowAt.note {w : World} {ao : Option Addr} {n : Nat} {ts : List Jsn.Note} (h : RowAt w 3 ao n (ts.flatMap noteCells)) (k : Nat) (t : Jsn.Note) (hk : k < n) (ht : ts[k]? = some t) : ∃ g, ao = some ⟨g, 0, none⟩ ∧ g < w.heap.size ∧ w.cell? ⟨g, k * 3, none⟩ = some (.int .i64 (t.frm : Int)) ∧ w.cell? ⟨g, k * 3 + 1, none⟩ = some (.int .i64 (t.to : Int)) ∧ w.cell? ⟨g, k * 3 + 2, none⟩ = some (.string ⟨t.text.toArray⟩) := by
  obtain ⟨g, h1, h2, h3⟩ := h (by omega)
  have e := fun j hj => flat_get noteCells 3 noteCells_len ts k j t ht hj
  exact ⟨g, h1, h2, (h3 (k * 3 + 0) (by omega)).trans (e 0 (by omega)), (h3 (k * 3 + 1) (by omega)).trans (e 1 (by omega)), (h3 (k * 3 + 2) (by omega)).trans (e 2 (by omega))⟩
def srcA : List UInt8 := [49, 32, 47, 47, 32, 99]
def srcB : List UInt8 := [34, 92, 117, 100, 56, 51, 100, 92, 117, 100, 101, 48, 48, 34]
def srcC : List UInt8 := [34, 97, 92, 117, 100, 56, 51, 100, 34]
theorem outA : outOf srcA = ⟨[⟨3, 0, 1, [49]⟩], [⟨2, 6, [47, 47, 32, 99]⟩], 0, 0⟩ := by kernel_rfl
theorem outB : outOf srcB = ⟨[⟨2, 0, 14, [240, 159, 152, 128]⟩], [], 0, 0⟩ := by kernel_rfl
theorem outC : outOf srcC = ⟨[], [], 2, 11⟩ := by kernel_rfl
set_option maxRecDepth 100000 in
set_option maxHeartbeats 4000000 in
theorem awake_any (w : World) (hE : EnvJ w) :
    Calls Tryd.prog 9 #[] w fun e w' => e = .returned (.bool true) ∧ Below w.heap.size w w' := by
  have HA : Hid (∀ w1, Below w.heap.size w w1 → Calls Tryd.prog 10 #[.string ⟨#[49, 32, 47, 47, 32, 99]⟩] w1 (RetO w1 ⟨[⟨3, 0, 1, [49]⟩], [⟨2, 6, [47, 47, 32, 99]⟩], 0, 0⟩)) := Lib.hid (fun w1 hb => by
    have := scan_out ⟨#[49, 32, 47, 47, 32, 99]⟩ w1 (by decide) (hE.below hb)
    rwa [show (⟨#[49, 32, 47, 47, 32, 99]⟩ : ByteArray).data.toList = srcA from rfl, outA] at this)
  have HB : Hid (∀ w1, Below w.heap.size w w1 → Calls Tryd.prog 10 #[.string ⟨#[34, 92, 117, 100, 56, 51, 100, 92, 117, 100, 101, 48, 48, 34]⟩] w1 (RetO w1 ⟨[⟨2, 0, 14, [240, 159, 152, 128]⟩], [], 0, 0⟩)) := Lib.hid (fun w1 hb => by
    have := scan_out ⟨#[34, 92, 117, 100, 56, 51, 100, 92, 117, 100, 101, 48, 48, 34]⟩ w1 (by decide) (hE.below hb)
    rwa [show (⟨#[34, 92, 117, 100, 56, 51, 100, 92, 117, 100, 101, 48, 48, 34]⟩ : ByteArray).data.toList = srcB from rfl, outB] at this)
  have HC : Hid (∀ w1, Below w.heap.size w w1 → Calls Tryd.prog 10 #[.string ⟨#[34, 97, 92, 117, 100, 56, 51, 100, 34]⟩] w1 (RetO w1 ⟨[], [], 2, 11⟩)) := Lib.hid (fun w1 hb => by
    have := scan_out ⟨#[34, 97, 92, 117, 100, 56, 51, 100, 34]⟩ w1 (by decide) (hE.below hb)
    rwa [show (⟨#[34, 97, 92, 117, 100, 56, 51, 100, 34]⟩ : ByteArray).data.toList = srcC from rfl, outC] at this)
  clear hE
  go_enter Tryd.func9, Tryd.ntmps9
  go_wp2_with fail
  refine (HA.out w (Below.refl _ _)).mono ?_
  rintro e w1 ⟨⟨tv, nv, rfl, hot, hon⟩, hb1⟩
  obtain ⟨ao, ac, rfl, hac, RA⟩ := row_at hot
  obtain ⟨xo, xc, rfl, hxc, RX⟩ := row_at hon
  clear hot hon
  go_wp2_with fail
  refine (HB.out w1 hb1).mono ?_
  rintro e w2 ⟨⟨tv, nv, rfl, hot, hon⟩, hb2⟩
  obtain ⟨bo, bc, rfl, hbc, RB⟩ := row_at hot
  obtain ⟨yo, yc, rfl, hyc, RY⟩ := row_at hon
  have RA2 := RA.keep hb2
  have RX2 := RX.keep hb2
  have hw2 := hb1.trans (hb2.mono hb1.size)
  clear hot hon RX RY RA hb1 hb2
  go_wp2_with fail
  refine (HC.out w2 hw2).mono ?_
  rintro e w3 ⟨⟨tv, nv, rfl, hot, hon⟩, hb3⟩
  have RA3 := RA2.keep hb3
  have RX3 := RX2.keep hb3
  have RB3 := RB.keep hb3
  have hw3 := hw2.trans (hb3.mono hw2.size)
  obtain ⟨ga, rfl, ga0, a0, a1, a2, a3⟩ := RA3.tok 0 _ (by decide) rfl
  obtain ⟨gx, rfl, gx0, x0, x1, x2⟩ := RX3.note 0 _ (by decide) rfl
  obtain ⟨gb, rfl, gb0, b0, b1, b2, b3⟩ := RB3.tok 0 _ (by decide) rfl
  clear hot hon RA2 RX2 RB RA3 RX3 RB3 hb3 hw2 HA HB HC
  go_wp2_with fail
  go_ret
  exact ⟨rfl, hw3⟩
end Go.Proofs.YtjfkiomegacpeaaDoor
