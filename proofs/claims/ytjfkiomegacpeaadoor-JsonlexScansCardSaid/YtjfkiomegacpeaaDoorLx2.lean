/-
  The reference's lexer: escape by its contract. Laid by wip/gen/lxesc.py.
-/
import Derived.Test.YtjfkiomegacpeaaDoorLx1
namespace Go.Proofs.YtjfkiomegacpeaaDoor
open Go.RowKit
def RetEs (g : Nat) (s : ByteArray) (i : Nat) (tv nv : Value) (er a : Int) (w : World) (r : Jsn.Esc) (e : Go.Ending) (w' : World) : Prop :=
  (match r with
    | .ok x n => e = .returned (.string ⟨(Jsn.enc x).toArray⟩) ∧ LxB w' g s (i + n) tv nv er a
    | .bad c => ∃ k : Nat, e = .returned (.string ⟨#[]⟩) ∧ LxB w' g s k tv nv (c : Int) (i : Int)) ∧ Upd g w w'
theorem RetEs.ok {g : Nat} {s : ByteArray} {i : Nat} {tv nv : Value} {er a : Int} {w w' : World} {x n : Nat} {e : Go.Ending} (h1 : e = .returned (.string ⟨(Jsn.enc x).toArray⟩)) (h2 : LxB w' g s (i + n) tv nv er a) (h3 : Upd g w w') : RetEs g s i tv nv er a w (.ok x n) e w' := ⟨⟨h1, h2⟩, h3⟩
theorem RetEs.bad {g : Nat} {s : ByteArray} {i : Nat} {tv nv : Value} {er a : Int} {w w' : World} {c : Nat} {k : Nat} {e : Go.Ending} (h1 : e = .returned (.string ⟨#[]⟩)) (h2 : LxB w' g s k tv nv (c : Int) (i : Int)) (h3 : Upd g w w') : RetEs g s i tv nv er a w (.bad c) e w' := ⟨⟨k, h1, h2⟩, h3⟩
theorem wrap32_in (n : Int) (h1 : -2147483648 ≤ n) (h2 : n ≤ 2147483647) : IntKind.i32.wrap n = n := by
  simp only [IntKind.wrap, IntKind.bits, IntKind.signed]
  simp
  omega
theorem esc_some {l : List UInt8} {v : Nat} (h : Jsn.unit l = some v) : Jsn.escape l = if v < 55296 ∨ 57343 < v then .ok v 6 else match Jsn.unit (l.drop 6) with | none => .bad 11 | some low => if 56319 < v ∨ low < 56320 ∨ 57343 < low then .bad 11 else .ok (65536 + (v - 55296) * 1024 + (low - 56320)) 12 := by
  unfold Jsn.escape
  rw [h]
  rfl
theorem esc_none {l : List UInt8} (h : Jsn.unit l = none) : Jsn.escape l = if 0 < Jsn.meaning (l.getD 1 0) then .ok (Jsn.meaning (l.getD 1 0)) 2 else .bad 4 := by
  unfold Jsn.escape
  rw [h]
theorem mean_cases (c : UInt8) : (c.toNat = 34 ∧ Jsn.meaning c = 34) ∨ (c.toNat = 92 ∧ Jsn.meaning c = 92) ∨ (c.toNat = 47 ∧ Jsn.meaning c = 47) ∨ (c.toNat = 98 ∧ Jsn.meaning c = 8) ∨ (c.toNat = 102 ∧ Jsn.meaning c = 12) ∨ (c.toNat = 110 ∧ Jsn.meaning c = 10) ∨ (c.toNat = 114 ∧ Jsn.meaning c = 13) ∨ (c.toNat = 116 ∧ Jsn.meaning c = 9) ∨
    (c.toNat ≠ 34 ∧ c.toNat ≠ 92 ∧ c.toNat ≠ 47 ∧ c.toNat ≠ 98 ∧ c.toNat ≠ 102 ∧ c.toNat ≠ 110 ∧ c.toNat ≠ 114 ∧ c.toNat ≠ 116 ∧ Jsn.meaning c = 0) := by
  have h : ∀ n, n < 256 → ((UInt8.ofNat n).toNat = 34 ∧ Jsn.meaning (UInt8.ofNat n) = 34) ∨ ((UInt8.ofNat n).toNat = 92 ∧ Jsn.meaning (UInt8.ofNat n) = 92) ∨ ((UInt8.ofNat n).toNat = 47 ∧ Jsn.meaning (UInt8.ofNat n) = 47) ∨ ((UInt8.ofNat n).toNat = 98 ∧ Jsn.meaning (UInt8.ofNat n) = 8) ∨ ((UInt8.ofNat n).toNat = 102 ∧ Jsn.meaning (UInt8.ofNat n) = 12) ∨ ((UInt8.ofNat n).toNat = 110 ∧ Jsn.meaning (UInt8.ofNat n) = 10) ∨ ((UInt8.ofNat n).toNat = 114 ∧ Jsn.meaning (UInt8.ofNat n) = 13) ∨ ((UInt8.ofNat n).toNat = 116 ∧ Jsn.meaning (UInt8.ofNat n) = 9) ∨
    ((UInt8.ofNat n).toNat ≠ 34 ∧ (UInt8.ofNat n).toNat ≠ 92 ∧ (UInt8.ofNat n).toNat ≠ 47 ∧ (UInt8.ofNat n).toNat ≠ 98 ∧ (UInt8.ofNat n).toNat ≠ 102 ∧ (UInt8.ofNat n).toNat ≠ 110 ∧ (UInt8.ofNat n).toNat ≠ 114 ∧ (UInt8.ofNat n).toNat ≠ 116 ∧ Jsn.meaning (UInt8.ofNat n) = 0) := by decide +kernel
  have h2 := h c.toNat (UInt8.toNat_lt c)
  rw [UInt8.ofNat_toNat] at h2
  exact h2
set_option maxRecDepth 100000 in
set_option maxHeartbeats 8000000 in
theorem lesc_some (g : Nat) (s : ByteArray) (i : Nat) (tv nv : Value) (er a : Int) (w : World) (h : LxB w g s i tv nv er a) (hs : s.size ≤ 65536) (hi : i < s.size) (v : Nat) (hv : Jsn.unit (s.data.toList.drop i) = some v) :
    Calls Tryd.prog 53 #[.pointer (some ⟨g, 0, none⟩)] w (RetEs g s i tv nv er a w (Jsn.escape (s.data.toList.drop i))) := by
  obtain ⟨c0, c1, -, -, -, -⟩ := h.cells
  obtain ⟨E, hE⟩ : ∃ E, E = Jsn.escape (s.data.toList.drop i) := ⟨_, rfl⟩
  rw [← hE]
  rw [esc_some hv, List.drop_drop] at hE
  have hvb := (Jsn.unit_bd _ v hv).2.2
  have HU := Lib.hid (fun w1 (hb : Below w.heap.size w w1) => lunit_any g s i tv nv er a i w1 (h.keep hb) hs (by omega))
  rw [hv] at HU
  have HU1 : Hid (∀ w1, Below w.heap.size w w1 → Calls Tryd.prog 63 #[.pointer (some ⟨g, 0, none⟩), .int .i64 (i : Int)] w1 fun r w' => r = .returned (.int .i64 (v : Int)) ∧ Below w1.heap.size w1 w') := HU
  have HL := Lib.hid (fun w1 (hb : Below w.heap.size w w1) => lunit_any g s i tv nv er a (i + 6) w1 (h.keep hb) hs (by omega))
  have HL1 : Hid (∀ w1, Below w.heap.size w w1 → Calls Tryd.prog 63 #[.pointer (some ⟨g, 0, none⟩), .int .i64 ((i : Int) + 6)] w1 fun r w' => r = .returned (.int .i64 (unitI (Jsn.unit (s.data.toList.drop (i + 6))))) ∧ Below w1.heap.size w1 w') := HL
  have hlb : ∀ x, Jsn.unit (s.data.toList.drop (i + 6)) = some x → x < 65536 := fun x hx => (Jsn.unit_bd _ x hx).2.2
  generalize Jsn.unit (s.data.toList.drop (i + 6)) = lo at *
  have HE1 := Lib.hid (fun (r : Nat) (hr : r ≤ 1114111) w1 => encode_any r hr w1)
  have HK := Lib.hid (fun w1 (hb : Below w.heap.size w w1) => h.keep hb)
  have HFL := Lib.hid (fun w1 (hb : Below w.heap.size w w1) => lfail_any g s i tv nv er a 11 (i : Int) w1 (h.keep hb))
  have hgw := h.lt
  clear HU HL hv
  obtain ⟨lw, hlw⟩ : ∃ x, x = unitI lo := ⟨_, rfl⟩
  rw [← hlw] at HL1
  have hB0 : Below w.heap.size w w := Below.refl _ _
  by_cases hr : v < 55296 ∨ 57343 < v
  · rw [if_pos hr] at hE
    subst hE
    have HEr := Lib.hid (fun w1 => HE1.out v (by omega) w1)
    have hvi : (v : Int) < 55296 ∨ 57343 < (v : Int) := by omega
    clear HE1 hlb hlw hr
    have w32 : IntKind.i32.wrap (v : Int) = (v : Int) := wrap32_in _ (by omega) (by omega)
    rcases hvi with k1 | k1
    · have D1 : decide (55296 ≤ (v : Int)) = false := decide_eq_false (by omega)
      clear k1 hvb
      go_enter Tryd.func53, Tryd.ntmps53
      go_wp2_with (first | (go_at_call 63; with_reducible refine (HU1.out _ (by assumption)).mono ?_; rintro e w5 ⟨rfl, hb5⟩; obtain ⟨d0, d1, -, -, -, -⟩ := (HK.out w5 hb5).cells) | (go_at_call 63; with_reducible refine (HL1.out _ (by assumption)).mono ?_; rintro e w6 ⟨rfl, hb6⟩; have hb7 : Below w.heap.size w w6 := hb5.trans (hb6.mono hb5.size); have h7 := HK.out w6 hb7; obtain ⟨e0, e1, -, -, -, -⟩ := h7.cells; have e4 := h7.free 1) | (go_at_call 14; refine (HEr.out _).mono ?_; rintro e w8 ⟨rfl, hb8⟩))
      go_ret
      exact RetEs.ok rfl ((h7.setI (i + 6) _ (by omega)).keep hb8) (((Upd.of hb7 (Nat.le_of_lt hgw)).cell 1 _).trans (Upd.of hb8 (Nat.le_of_lt (h7.setI (i + 6) _ rfl).lt)))
    · have D1 : decide (55296 ≤ (v : Int)) = true := decide_eq_true (by omega)
      have D2 : decide ((v : Int) < 56320) = false := decide_eq_false (by omega)
      have D5 : decide ((v : Int) < 57344) = false := decide_eq_false (by omega)
      clear k1 hvb
      go_enter Tryd.func53, Tryd.ntmps53
      go_wp2_with (first | (go_at_call 63; with_reducible refine (HU1.out _ (by assumption)).mono ?_; rintro e w5 ⟨rfl, hb5⟩; obtain ⟨d0, d1, -, -, -, -⟩ := (HK.out w5 hb5).cells) | (go_at_call 63; with_reducible refine (HL1.out _ (by assumption)).mono ?_; rintro e w6 ⟨rfl, hb6⟩; have hb7 : Below w.heap.size w w6 := hb5.trans (hb6.mono hb5.size); have h7 := HK.out w6 hb7; obtain ⟨e0, e1, -, -, -, -⟩ := h7.cells; have e4 := h7.free 1) | (go_at_call 14; refine (HEr.out _).mono ?_; rintro e w8 ⟨rfl, hb8⟩))
      go_ret
      exact RetEs.ok rfl ((h7.setI (i + 6) _ (by omega)).keep hb8) (((Upd.of hb7 (Nat.le_of_lt hgw)).cell 1 _).trans (Upd.of hb8 (Nat.le_of_lt (h7.setI (i + 6) _ rfl).lt)))
  · rw [if_neg hr] at hE
    have hr1 : 55296 ≤ (v : Int) := by omega
    have hr2 : (v : Int) < 57344 := by omega
    by_cases hg : (v : Int) < 56320 ∧ 56320 ≤ lw ∧ lw < 57344
    · obtain ⟨m1, m2, m3⟩ := hg
      have hlo : ∃ x, lo = some x ∧ lw = (x : Int) := by
        cases lo with
        | none => rw [hlw] at m2; exact absurd m2 (by decide)
        | some x => exact ⟨x, rfl, hlw⟩
      obtain ⟨x, rfl, rfl⟩ := hlo
      replace hE : E = if 56319 < v ∨ x < 56320 ∨ 57343 < x then .bad 11 else .ok (65536 + (v - 55296) * 1024 + (x - 56320)) 12 := hE
      rw [if_neg (by omega)] at hE
      subst hE
      obtain ⟨z, hz⟩ : ∃ z, z = 65536 + (v - 55296) * 1024 + (x - 56320) := ⟨_, rfl⟩
      rw [← hz]
      have HEr : Hid (∀ w1, Calls Tryd.prog 14 #[.int .i32 (65536 + ((v : Int) - 55296) * 1024 + (x : Int) - 56320)] w1 fun e w' => e = .returned (.string ⟨(Jsn.enc z).toArray⟩) ∧ Below w1.heap.size w1 w') := Lib.hid (fun w1 => by
        have h := HE1.out z (by omega) w1
        rw [show ((z : Nat) : Int) = 65536 + ((v : Int) - 55296) * 1024 + (x : Int) - 56320 by omega] at h
        exact h)
      have D1 : decide (55296 ≤ (v : Int)) = true := decide_eq_true (by omega)
      have D2 : decide ((v : Int) < 56320) = true := decide_eq_true (by omega)
      have D3 : decide (56320 ≤ (x : Int)) = true := decide_eq_true (by omega)
      have D4 : decide ((x : Int) < 57344) = true := decide_eq_true (by omega)
      have W1 : IntKind.i64.wrap ((v : Int) - 55296) = (v : Int) - 55296 := IntWalk.i64_in _ (by omega)
      have W2 : IntKind.i64.wrap (((v : Int) - 55296) * 1024) = ((v : Int) - 55296) * 1024 := IntWalk.i64_in _ (by omega)
      have W3 : IntKind.i64.wrap (65536 + ((v : Int) - 55296) * 1024) = 65536 + ((v : Int) - 55296) * 1024 := IntWalk.i64_in _ (by omega)
      have W4 : IntKind.i64.wrap (65536 + ((v : Int) - 55296) * 1024 + (x : Int)) = 65536 + ((v : Int) - 55296) * 1024 + (x : Int) := IntWalk.i64_in _ (by omega)
      have W5 : IntKind.i64.wrap (65536 + ((v : Int) - 55296) * 1024 + (x : Int) - 56320) = 65536 + ((v : Int) - 55296) * 1024 + (x : Int) - 56320 := IntWalk.i64_in _ (by omega)
      have W6 : IntKind.i32.wrap (65536 + ((v : Int) - 55296) * 1024 + (x : Int) - 56320) = 65536 + ((v : Int) - 55296) * 1024 + (x : Int) - 56320 := wrap32_in _ (by omega) (by omega)
      clear HE1 hlb hlw hr hz m1 m2 m3 hr1 hr2 hvb
      go_enter Tryd.func53, Tryd.ntmps53
      go_wp2_with (first | (go_at_call 63; with_reducible refine (HU1.out _ (by assumption)).mono ?_; rintro e w5 ⟨rfl, hb5⟩; obtain ⟨d0, d1, -, -, -, -⟩ := (HK.out w5 hb5).cells) | (go_at_call 63; with_reducible refine (HL1.out _ (by assumption)).mono ?_; rintro e w6 ⟨rfl, hb6⟩; have hb7 : Below w.heap.size w w6 := hb5.trans (hb6.mono hb5.size); have h7 := HK.out w6 hb7; obtain ⟨e0, e1, -, -, -, -⟩ := h7.cells; have e4 := h7.free 1) | (go_at_call 14; refine (HEr.out _).mono ?_; rintro e w8 ⟨rfl, hb8⟩))
      go_ret
      exact RetEs.ok rfl ((h7.setI (i + 12) _ (by omega)).keep hb8) (((Upd.of hb7 (Nat.le_of_lt hgw)).cell 1 _).trans (Upd.of hb8 (Nat.le_of_lt (h7.setI (i + 12) _ rfl).lt)))
    · have hE2 : E = .bad 11 := by
        rw [hE]
        cases lo with
        | none => rfl
        | some x =>
          have hx : lw = (x : Int) := hlw
          show (if 56319 < v ∨ x < 56320 ∨ 57343 < x then Jsn.Esc.bad 11 else _) = _
          rw [if_pos (by omega)]
      subst hE2
      clear HE1 hlb hlw hr hE
      have hcs : ¬ (v : Int) < 56320 ∨ ((v : Int) < 56320 ∧ ¬ 56320 ≤ lw) ∨ ((v : Int) < 56320 ∧ 56320 ≤ lw ∧ ¬ lw < 57344) := by omega
      have D1 : decide (55296 ≤ (v : Int)) = true := decide_eq_true hr1
      have D5 : decide ((v : Int) < 57344) = true := decide_eq_true hr2
      have hcd : decide ((v : Int) < 56320) = false ∨ (decide ((v : Int) < 56320) = true ∧ decide (56320 ≤ lw) = false) ∨ (decide ((v : Int) < 56320) = true ∧ decide (56320 ≤ lw) = true ∧ decide (lw < 57344) = false) := by
        rcases hcs with m1 | ⟨m1, m2⟩ | ⟨m1, m2, m3⟩
        · exact .inl (decide_eq_false m1)
        · exact .inr (.inl ⟨decide_eq_true m1, decide_eq_false m2⟩)
        · exact .inr (.inr ⟨decide_eq_true m1, decide_eq_true m2, decide_eq_false m3⟩)
      clear hg hcs hr1 hr2 hvb
      rcases hcd with D2 | ⟨D2, D3⟩ | ⟨D2, D3, D4⟩
      all_goals
        go_enter Tryd.func53, Tryd.ntmps53
        go_wp2_with (first | (go_at_call 63; with_reducible refine (HU1.out _ (by assumption)).mono ?_; rintro e w5 ⟨rfl, hb5⟩; obtain ⟨d0, d1, -, -, -, -⟩ := (HK.out w5 hb5).cells) | (go_at_call 63; with_reducible refine (HL1.out _ (by assumption)).mono ?_; rintro e w6 ⟨rfl, hb6⟩; have hb7 : Below w.heap.size w w6 := hb5.trans (hb6.mono hb5.size); have h7 := HK.out w6 hb7; obtain ⟨e0, e1, -, -, -, -⟩ := h7.cells; have e4 := h7.free 1) | (go_at_call 42; refine (HFL.out _ (by assumption)).mono ?_; rintro e w8 ⟨rfl, hL8, hU8⟩))
        go_ret
        exact RetEs.bad rfl hL8 ((Upd.of hb7 (Nat.le_of_lt hgw)).trans hU8)
set_option maxRecDepth 100000 in
set_option maxHeartbeats 8000000 in
theorem lesc_none (g : Nat) (s : ByteArray) (i : Nat) (tv nv : Value) (er a : Int) (w : World) (h : LxB w g s i tv nv er a) (hs : s.size ≤ 65536) (hi : i < s.size) (hv : Jsn.unit (s.data.toList.drop i) = none) :
    Calls Tryd.prog 53 #[.pointer (some ⟨g, 0, none⟩)] w (RetEs g s i tv nv er a w (Jsn.escape (s.data.toList.drop i))) := by
  obtain ⟨c0, c1, -, -, -, -⟩ := h.cells
  obtain ⟨E, hE⟩ : ∃ E, E = Jsn.escape (s.data.toList.drop i) := ⟨_, rfl⟩
  rw [← hE]
  rw [esc_none hv] at hE
  have HU := Lib.hid (fun w1 (hb : Below w.heap.size w w1) => lunit_any g s i tv nv er a i w1 (h.keep hb) hs (by omega))
  rw [hv] at HU
  have HU1 : Hid (∀ w1, Below w.heap.size w w1 → Calls Tryd.prog 63 #[.pointer (some ⟨g, 0, none⟩), .int .i64 (i : Int)] w1 fun r w' => r = .returned (.int .i64 (-1)) ∧ Below w1.heap.size w1 w') := HU
  have HK := Lib.hid (fun w1 (hb : Below w.heap.size w w1) => h.keep hb)
  have HFL := Lib.hid (fun w1 (hb : Below w.heap.size w w1) => lfail_any g s i tv nv er a 4 (i : Int) w1 (h.keep hb))
  have hgw := h.lt
  have hwr : IntKind.i64.wrap ((i : Int) + 1) = (i : Int) + 1 := IntWalk.i64_in _ (by omega)
  have hB0 : Below w.heap.size w w := Below.refl _ _
  clear HU hv
  go_enter Tryd.func53, Tryd.ntmps53
  go_wp2_with (go_at_call 63; with_reducible refine (HU1.out _ (by assumption)).mono ?_; rintro e w5 ⟨rfl, hb5⟩; obtain ⟨d0, d1, -, -, -, -⟩ := (HK.out w5 hb5).cells)
  by_cases hi1 : i + 1 < s.size
  · have hgd : (s.data.toList.drop i).getD 1 0 = s[i + 1] := by
      rw [drop_at s i hi, drop_at s (i + 1) hi1]
      rfl
    rw [hgd] at hE
    have b0 : decide ((i : Int) + 1 < (s.size : Int)) = true := decide_eq_true (by omega)
    have b1 : (i : Int) + 1 < (s.size : Int) := by omega
    have b2 : 0 ≤ (i : Int) + 1 := by omega
    have b3 : ((i : Int) + 1).toNat = i + 1 := by omega
    clear hgd
    go_quiet (fail)
    have hb6 : Below w.heap.size w (w5.drewN nq) := drewN_below hb5 nq
    have h6 := HK.out _ hb6
    generalize w5.drewN nq = w6 at *
    obtain ⟨e0, e1, -, -, -, -⟩ := h6.cells
    clear d0 d1 hb5
    go_wp2_with fail
    go_quiet (fail)
    have hb7 : Below w.heap.size w (w6.drewN nq) := drewN_below hb6 nq
    have h7 := HK.out _ hb7
    generalize w6.drewN nq = w7 at *
    obtain ⟨f0, f1, -, -, -, -⟩ := h7.cells
    have f4 := h7.free 1
    clear e0 e1 hb6 h6
    have hU7 := Upd.of hb7 (Nat.le_of_lt hgw)
    rcases mean_cases s[i + 1] with ⟨m1, m2⟩ | ⟨m1, m2⟩ | ⟨m1, m2⟩ | ⟨m1, m2⟩ | ⟨m1, m2⟩ | ⟨m1, m2⟩ | ⟨m1, m2⟩ | ⟨m1, m2⟩ | ⟨k1, k2, k3, k4, k5, k6, k7, k8, m2⟩
    · rw [m2, if_pos (by decide)] at hE
      subst hE
      have hX : (s[i + 1].toNat : Int) = 34 := by omega
      rw [hX]
      have h8 : LxB (w7.alloc (.cells #[.int .u8 34] 5)) g s i tv nv er a := h7.keep (below_alloc _)
      have hU8 : Upd g w (w7.alloc (.cells #[.int .u8 34] 5)) := hU7.trans (Upd.of (below_alloc _) (Nat.le_of_lt h7.lt))
      obtain ⟨g0, g1, -, -, -, -⟩ := h8.cells
      have g4 := h8.free 1
      clear hX m1 m2
      go_wp2_with ((with_reducible refine wpList_cells_string rfl 39 9 (.tmp 109) rfl 5 Tryd.underlying39 (by kernel_rfl) (by kernel_rfl) w7.heap.size 1 1 [34] rfl ?_ ?_ ?_); exact rfl; exact new_bytes w7 [_] [34] 5 rfl)
      go_ret
      exact RetEs.ok rfl (h8.setI (i + 2) _ (by omega)) (hU8.cell 1 _)
    · rw [m2, if_pos (by decide)] at hE
      subst hE
      have hX : (s[i + 1].toNat : Int) = 92 := by omega
      rw [hX]
      have h8 : LxB (w7.alloc (.cells #[.int .u8 92] 5)) g s i tv nv er a := h7.keep (below_alloc _)
      have hU8 : Upd g w (w7.alloc (.cells #[.int .u8 92] 5)) := hU7.trans (Upd.of (below_alloc _) (Nat.le_of_lt h7.lt))
      obtain ⟨g0, g1, -, -, -, -⟩ := h8.cells
      have g4 := h8.free 1
      clear hX m1 m2
      go_wp2_with ((with_reducible refine wpList_cells_string rfl 39 9 (.tmp 109) rfl 5 Tryd.underlying39 (by kernel_rfl) (by kernel_rfl) w7.heap.size 1 1 [92] rfl ?_ ?_ ?_); exact rfl; exact new_bytes w7 [_] [92] 5 rfl)
      go_ret
      exact RetEs.ok rfl (h8.setI (i + 2) _ (by omega)) (hU8.cell 1 _)
    · rw [m2, if_pos (by decide)] at hE
      subst hE
      have hX : (s[i + 1].toNat : Int) = 47 := by omega
      rw [hX]
      have h8 : LxB (w7.alloc (.cells #[.int .u8 47] 5)) g s i tv nv er a := h7.keep (below_alloc _)
      have hU8 : Upd g w (w7.alloc (.cells #[.int .u8 47] 5)) := hU7.trans (Upd.of (below_alloc _) (Nat.le_of_lt h7.lt))
      obtain ⟨g0, g1, -, -, -, -⟩ := h8.cells
      have g4 := h8.free 1
      clear hX m1 m2
      go_wp2_with ((with_reducible refine wpList_cells_string rfl 39 9 (.tmp 109) rfl 5 Tryd.underlying39 (by kernel_rfl) (by kernel_rfl) w7.heap.size 1 1 [47] rfl ?_ ?_ ?_); exact rfl; exact new_bytes w7 [_] [47] 5 rfl)
      go_ret
      exact RetEs.ok rfl (h8.setI (i + 2) _ (by omega)) (hU8.cell 1 _)
    · rw [m2, if_pos (by decide)] at hE
      subst hE
      have hX : (s[i + 1].toNat : Int) = 98 := by omega
      rw [hX]
      clear hX m1 m2
      go_wp2_with fail
      go_ret
      exact RetEs.ok rfl (h7.setI (i + 2) _ (by omega)) (hU7.cell 1 _)
    · rw [m2, if_pos (by decide)] at hE
      subst hE
      have hX : (s[i + 1].toNat : Int) = 102 := by omega
      rw [hX]
      clear hX m1 m2
      go_wp2_with fail
      go_ret
      exact RetEs.ok rfl (h7.setI (i + 2) _ (by omega)) (hU7.cell 1 _)
    · rw [m2, if_pos (by decide)] at hE
      subst hE
      have hX : (s[i + 1].toNat : Int) = 110 := by omega
      rw [hX]
      clear hX m1 m2
      go_wp2_with fail
      go_ret
      exact RetEs.ok rfl (h7.setI (i + 2) _ (by omega)) (hU7.cell 1 _)
    · rw [m2, if_pos (by decide)] at hE
      subst hE
      have hX : (s[i + 1].toNat : Int) = 114 := by omega
      rw [hX]
      clear hX m1 m2
      go_wp2_with fail
      go_ret
      exact RetEs.ok rfl (h7.setI (i + 2) _ (by omega)) (hU7.cell 1 _)
    · rw [m2, if_pos (by decide)] at hE
      subst hE
      have hX : (s[i + 1].toNat : Int) = 116 := by omega
      rw [hX]
      clear hX m1 m2
      go_wp2_with fail
      go_ret
      exact RetEs.ok rfl (h7.setI (i + 2) _ (by omega)) (hU7.cell 1 _)
    · rw [m2, if_neg (by decide)] at hE
      subst hE
      have n1 : ((s[i + 1].toNat : Int) == 34) = false := by rw [beq_eq_false_iff_ne]; omega
      have n2 : ((s[i + 1].toNat : Int) == 92) = false := by rw [beq_eq_false_iff_ne]; omega
      have n3 : ((s[i + 1].toNat : Int) == 47) = false := by rw [beq_eq_false_iff_ne]; omega
      have n4 : ((s[i + 1].toNat : Int) == 98) = false := by rw [beq_eq_false_iff_ne]; omega
      have n5 : ((s[i + 1].toNat : Int) == 102) = false := by rw [beq_eq_false_iff_ne]; omega
      have n6 : ((s[i + 1].toNat : Int) == 110) = false := by rw [beq_eq_false_iff_ne]; omega
      have n7 : ((s[i + 1].toNat : Int) == 114) = false := by rw [beq_eq_false_iff_ne]; omega
      have n8 : ((s[i + 1].toNat : Int) == 116) = false := by rw [beq_eq_false_iff_ne]; omega
      clear m2 k1 k2 k3 k4 k5 k6 k7 k8
      go_wp2_with (go_at_call 42; with_reducible refine (HFL.out _ (by assumption)).mono ?_; rintro e w8 ⟨rfl, hL8, hU8⟩; obtain ⟨g0, g1, -, -, -, -⟩ := hL8.cells; have g4 := hL8.free 1)
      go_ret
      exact RetEs.bad rfl (hL8.setI (i + 2) _ (by omega)) ((hU7.trans hU8).cell 1 _)
  · have hgd : (s.data.toList.drop i).getD 1 0 = 0 := by
      rw [drop_at s i hi, List.drop_of_length_le (by rw [size_toList]; omega)]
      rfl
    rw [hgd, if_neg (by decide)] at hE
    subst hE
    have b0 : decide ((i : Int) + 1 < (s.size : Int)) = false := decide_eq_false (by omega)
    clear hgd
    go_quiet (fail)
    have hb6 : Below w.heap.size w (w5.drewN nq) := drewN_below hb5 nq
    have hU6 := Upd.of hb6 (Nat.le_of_lt hgw)
    generalize w5.drewN nq = w6 at *
    clear d0 d1 hb5
    obtain ⟨e0, e1, -, -, -, -⟩ := (HK.out w6 hb6).cells
    go_wp2_with (go_at_call 42; with_reducible refine (HFL.out _ (by assumption)).mono ?_; rintro e w8 ⟨rfl, hL8, hU8⟩; obtain ⟨g0, g1, -, -, -, -⟩ := hL8.cells; have g4 := hL8.free 1)
    go_ret
    exact RetEs.bad rfl (hL8.setI (i + 2) _ (by omega)) ((hU6.trans hU8).cell 1 _)
theorem lescape_any (g : Nat) (s : ByteArray) (i : Nat) (tv nv : Value) (er a : Int) (w : World) (h : LxB w g s i tv nv er a) (hs : s.size ≤ 65536) (hi : i < s.size) :
    Calls Tryd.prog 53 #[.pointer (some ⟨g, 0, none⟩)] w (RetEs g s i tv nv er a w (Jsn.escape (s.data.toList.drop i))) := by
  cases hv : Jsn.unit (s.data.toList.drop i) with
  | none => exact lesc_none g s i tv nv er a w h hs hi hv
  | some v => exact lesc_some g s i tv nv er a w h hs hi v hv
end Go.Proofs.YtjfkiomegacpeaaDoor
