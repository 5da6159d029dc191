/-
  InstantOrders: true at every pair of strings.
-/
import Derived.Test.YtbficmdjblimfaaDoorIne
namespace Go.Proofs.YtbficmdjblimfaaDoor
open Go.RowKit
set_option maxRecDepth 100000 in
set_option maxHeartbeats 8000000 in
theorem instantOrders_any (a b : ByteArray) (w : World) (hE : EnvI w) :
    Calls Tryd.prog 9 #[.string a, .string b] w fun e w' => e = .returned (.bool true) ∧ Below w.heap.size w w' := by
  have HAw : Hid (∀ w1, Below w.heap.size w w1 → Calls Tryd.prog 10 #[] w1 fun e w2 => e = .returned (.bool true) ∧ Below w.heap.size w w2) := Lib.hid (fun w1 hb => (awake_any w1 (hE.below hb)).mono fun e w2 h => ⟨h.1, below_tr hb h.2⟩)
  have hB0 : Below w.heap.size w w := Below.refl _ _
  by_cases hs : 200 < a.size
  · clear hE
    go_enter Tryd.func9, Tryd.ntmps9
    go_wp2_with (first | (go_at_call 10; with_reducible refine (HAw.out _ (by assumption)).mono ?_; rintro e w5 ⟨rfl, hb5⟩))
    go_ret
    exact ⟨rfl, by assumption⟩
  by_cases hs2 : 200 < b.size
  · clear hE
    go_enter Tryd.func9, Tryd.ntmps9
    go_wp2_with (first | (go_at_call 10; with_reducible refine (HAw.out _ (by assumption)).mono ?_; rintro e w5 ⟨rfl, hb5⟩))
    go_ret
    exact ⟨rfl, by assumption⟩
  have HA : Hid (∀ w1, Below w.heap.size w w1 → Calls Tryd.prog 17 #[.string a] w1 (RetS3 w1 (secsOf a.data.toList))) := Lib.hid (fun w1 hb => iseconds_any a w1 (by omega) (hE.below hb))
  have HB : Hid (∀ w1, Below w.heap.size w w1 → Calls Tryd.prog 17 #[.string b] w1 (RetS3 w1 (secsOf b.data.toList))) := Lib.hid (fun w1 hb => iseconds_any b w1 (by omega) (hE.below hb))
  have HC : Hid (∀ w1, Below w.heap.size w w1 → Calls Tryd.prog 23 #[.string a, .string b] w1 fun e w2 => e = .returned (.int .i64 (cmpI (secsOf a.data.toList) (secsOf b.data.toList))) ∧ Below w.heap.size w w2) := Lib.hid (fun w1 hb => (cmp_any a b w1 (by omega) (by omega) (hE.below hb)).mono fun e w2 h => ⟨h.1, below_tr hb h.2⟩)
  have HD : Hid (∀ w1, Below w.heap.size w w1 → Calls Tryd.prog 23 #[.string b, .string a] w1 fun e w2 => e = .returned (.int .i64 (cmpI (secsOf b.data.toList) (secsOf a.data.toList))) ∧ Below w.heap.size w w2) := Lib.hid (fun w1 hb => (cmp_any b a w1 (by omega) (by omega) (hE.below hb)).mono fun e w2 h => ⟨h.1, below_tr hb h.2⟩)
  have hinj : ∀ p, secsOf a.data.toList = some p → secsOf b.data.toList = some p → a = b := fun p h1 h2 => by
    have h3 := secs_inj h1 h2
    calc a = ⟨a.data.toList.toArray⟩ := rfl
      _ = ⟨b.data.toList.toArray⟩ := by rw [h3]
      _ = b := rfl
  have hfun : a = b → secsOf a.data.toList = secsOf b.data.toList := fun h => by rw [h]
  generalize secsOf a.data.toList = A at *
  generalize secsOf b.data.toList = B at *
  have aarm := 0
  clear aarm hE
  cases A with
  | none =>
    cases B with
    | none =>
      have HA2 : Hid (∀ w1, Below w.heap.size w w1 → Calls Tryd.prog 17 #[.string a] w1 fun e w2 => e = .returned (.tuple #[.int .i64 0, .int .i64 0, .int .i64 3]) ∧ Below w.heap.size w w2) := Lib.hid (fun w1 hb => (HA.out w1 hb).mono fun e w2 h => ⟨h.1, below_tr hb h.2⟩)
      have HB2 : Hid (∀ w1, Below w.heap.size w w1 → Calls Tryd.prog 17 #[.string b] w1 fun e w2 => e = .returned (.tuple #[.int .i64 0, .int .i64 0, .int .i64 3]) ∧ Below w.heap.size w w2) := Lib.hid (fun w1 hb => (HB.out w1 hb).mono fun e w2 h => ⟨h.1, below_tr hb h.2⟩)
      have HC2 : Hid (∀ w1, Below w.heap.size w w1 → Calls Tryd.prog 23 #[.string a, .string b] w1 fun e w2 => e = .returned (.int .i64 0) ∧ Below w.heap.size w w2) := HC
      clear HA HB HC HD hinj hfun
      go_enter Tryd.func9, Tryd.ntmps9
      go_wp2_with (first | (go_at_call 10; with_reducible refine (HAw.out _ (by assumption)).mono ?_; rintro e w5 ⟨rfl, hb5⟩) | (go_at_call 17; with_reducible refine (HA2.out _ (by assumption)).mono ?_; rintro e w5 ⟨rfl, hb5⟩) | (go_at_call 17; with_reducible refine (HB2.out _ (by assumption)).mono ?_; rintro e w5 ⟨rfl, hb5⟩) | (go_at_call 23; with_reducible refine (HC2.out _ (by assumption)).mono ?_; rintro e w5 ⟨rfl, hb5⟩))
      go_ret
      exact ⟨rfl, by assumption⟩
    | some q =>
      obtain ⟨y, n⟩ := q
      have HA2 : Hid (∀ w1, Below w.heap.size w w1 → Calls Tryd.prog 17 #[.string a] w1 fun e w2 => e = .returned (.tuple #[.int .i64 0, .int .i64 0, .int .i64 3]) ∧ Below w.heap.size w w2) := Lib.hid (fun w1 hb => (HA.out w1 hb).mono fun e w2 h => ⟨h.1, below_tr hb h.2⟩)
      have HB2 : Hid (∀ w1, Below w.heap.size w w1 → Calls Tryd.prog 17 #[.string b] w1 fun e w2 => e = .returned (.tuple #[.int .i64 y, .int .i64 (n : Int), .int .i64 0]) ∧ Below w.heap.size w w2) := Lib.hid (fun w1 hb => (HB.out w1 hb).mono fun e w2 h => ⟨h.1, below_tr hb h.2⟩)
      have HC2 : Hid (∀ w1, Below w.heap.size w w1 → Calls Tryd.prog 23 #[.string a, .string b] w1 fun e w2 => e = .returned (.int .i64 0) ∧ Below w.heap.size w w2) := HC
      clear HA HB HC HD hinj hfun
      go_enter Tryd.func9, Tryd.ntmps9
      go_wp2_with (first | (go_at_call 10; with_reducible refine (HAw.out _ (by assumption)).mono ?_; rintro e w5 ⟨rfl, hb5⟩) | (go_at_call 17; with_reducible refine (HA2.out _ (by assumption)).mono ?_; rintro e w5 ⟨rfl, hb5⟩) | (go_at_call 17; with_reducible refine (HB2.out _ (by assumption)).mono ?_; rintro e w5 ⟨rfl, hb5⟩) | (go_at_call 23; with_reducible refine (HC2.out _ (by assumption)).mono ?_; rintro e w5 ⟨rfl, hb5⟩))
      go_ret
      exact ⟨rfl, by assumption⟩
  | some p =>
    obtain ⟨x, m⟩ := p
    cases B with
    | none =>
      have HA2 : Hid (∀ w1, Below w.heap.size w w1 → Calls Tryd.prog 17 #[.string a] w1 fun e w2 => e = .returned (.tuple #[.int .i64 x, .int .i64 (m : Int), .int .i64 0]) ∧ Below w.heap.size w w2) := Lib.hid (fun w1 hb => (HA.out w1 hb).mono fun e w2 h => ⟨h.1, below_tr hb h.2⟩)
      have HB2 : Hid (∀ w1, Below w.heap.size w w1 → Calls Tryd.prog 17 #[.string b] w1 fun e w2 => e = .returned (.tuple #[.int .i64 0, .int .i64 0, .int .i64 3]) ∧ Below w.heap.size w w2) := Lib.hid (fun w1 hb => (HB.out w1 hb).mono fun e w2 h => ⟨h.1, below_tr hb h.2⟩)
      have HC2 : Hid (∀ w1, Below w.heap.size w w1 → Calls Tryd.prog 23 #[.string a, .string b] w1 fun e w2 => e = .returned (.int .i64 0) ∧ Below w.heap.size w w2) := HC
      clear HA HB HC HD hinj hfun
      go_enter Tryd.func9, Tryd.ntmps9
      go_wp2_with (first | (go_at_call 10; with_reducible refine (HAw.out _ (by assumption)).mono ?_; rintro e w5 ⟨rfl, hb5⟩) | (go_at_call 17; with_reducible refine (HA2.out _ (by assumption)).mono ?_; rintro e w5 ⟨rfl, hb5⟩) | (go_at_call 17; with_reducible refine (HB2.out _ (by assumption)).mono ?_; rintro e w5 ⟨rfl, hb5⟩) | (go_at_call 23; with_reducible refine (HC2.out _ (by assumption)).mono ?_; rintro e w5 ⟨rfl, hb5⟩))
      go_ret
      exact ⟨rfl, by assumption⟩
    | some q =>
      obtain ⟨y, n⟩ := q
      have HA2 : Hid (∀ w1, Below w.heap.size w w1 → Calls Tryd.prog 17 #[.string a] w1 fun e w2 => e = .returned (.tuple #[.int .i64 x, .int .i64 (m : Int), .int .i64 0]) ∧ Below w.heap.size w w2) := Lib.hid (fun w1 hb => (HA.out w1 hb).mono fun e w2 h => ⟨h.1, below_tr hb h.2⟩)
      have HB2 : Hid (∀ w1, Below w.heap.size w w1 → Calls Tryd.prog 17 #[.string b] w1 fun e w2 => e = .returned (.tuple #[.int .i64 y, .int .i64 (n : Int), .int .i64 0]) ∧ Below w.heap.size w w2) := Lib.hid (fun w1 hb => (HB.out w1 hb).mono fun e w2 h => ⟨h.1, below_tr hb h.2⟩)
      clear HA HB
      have HCe : Hid (cmpI (some (x, m)) (some (y, n)) = if x < y ∨ x = y ∧ m < n then -1 else if y < x ∨ n < m then 1 else 0) := Lib.hid rfl
      have HDe : Hid (cmpI (some (y, n)) (some (x, m)) = if y < x ∨ y = x ∧ n < m then -1 else if x < y ∨ m < n then 1 else 0) := Lib.hid rfl
      rw [HCe.out] at HC
      rw [HDe.out] at HD
      clear HCe HDe
      by_cases c1 : x < y
      · have c2 : ¬ y < x := by omega
        have c3 : (x == y) = false := by rw [beq_eq_false_iff_ne]; omega
        rw [if_pos (.inl c1)] at HC
        rw [if_neg (by omega), if_pos (.inl c1)] at HD
        have HC2 := HC
        have HD2 := HD
        clear HC HD
        have hab : a ≠ b := fun h => by
          have h2 := hfun h
          simp only [Option.some.injEq, Prod.mk.injEq] at h2
          omega
        have hne := str_ne hab
        clear hinj hfun hab
        go_enter Tryd.func9, Tryd.ntmps9
        go_wp2_with (first | (go_at_call 10; with_reducible refine (HAw.out _ (by assumption)).mono ?_; rintro e w5 ⟨rfl, hb5⟩) | (go_at_call 17; with_reducible refine (HA2.out _ (by assumption)).mono ?_; rintro e w5 ⟨rfl, hb5⟩) | (go_at_call 17; with_reducible refine (HB2.out _ (by assumption)).mono ?_; rintro e w5 ⟨rfl, hb5⟩) | (go_at_call 23; with_reducible refine (HC2.out _ (by assumption)).mono ?_; rintro e w5 ⟨rfl, hb5⟩) | (go_at_call 23; with_reducible refine (HD2.out _ (by assumption)).mono ?_; rintro e w5 ⟨rfl, hb5⟩))
        go_ret
        exact ⟨rfl, by assumption⟩
      · by_cases c2 : x = y
        · subst c2
          by_cases c3 : m < n
          · have d1 : (m : Int) < (n : Int) := by omega
            have d2 : ¬ (n : Int) < (m : Int) := by omega
            rw [if_pos (.inr ⟨rfl, c3⟩)] at HC
            rw [if_neg (by omega), if_pos (.inr c3)] at HD
            have HC2 := HC
            have HD2 := HD
            clear HC HD
            have hab : a ≠ b := fun h => by
              have h2 := hfun h
              simp only [Option.some.injEq, Prod.mk.injEq] at h2
              omega
            have hne := str_ne hab
            clear hinj hfun hab
            go_enter Tryd.func9, Tryd.ntmps9
            go_wp2_with (first | (go_at_call 10; with_reducible refine (HAw.out _ (by assumption)).mono ?_; rintro e w5 ⟨rfl, hb5⟩) | (go_at_call 17; with_reducible refine (HA2.out _ (by assumption)).mono ?_; rintro e w5 ⟨rfl, hb5⟩) | (go_at_call 17; with_reducible refine (HB2.out _ (by assumption)).mono ?_; rintro e w5 ⟨rfl, hb5⟩) | (go_at_call 23; with_reducible refine (HC2.out _ (by assumption)).mono ?_; rintro e w5 ⟨rfl, hb5⟩) | (go_at_call 23; with_reducible refine (HD2.out _ (by assumption)).mono ?_; rintro e w5 ⟨rfl, hb5⟩))
            go_ret
            exact ⟨rfl, by assumption⟩
          · by_cases c4 : n < m
            · have d1 : ¬ (m : Int) < (n : Int) := by omega
              have d2 : (n : Int) < (m : Int) := by omega
              rw [if_neg (by omega), if_pos (.inr c4)] at HC
              rw [if_pos (.inr ⟨rfl, c4⟩)] at HD
              have HC2 := HC
              have HD2 := HD
              clear HC HD
              have hab : a ≠ b := fun h => by
                have h2 := hfun h
                simp only [Option.some.injEq, Prod.mk.injEq] at h2
                omega
              have hne := str_ne hab
              clear hinj hfun hab
              go_enter Tryd.func9, Tryd.ntmps9
              go_wp2_with (first | (go_at_call 10; with_reducible refine (HAw.out _ (by assumption)).mono ?_; rintro e w5 ⟨rfl, hb5⟩) | (go_at_call 17; with_reducible refine (HA2.out _ (by assumption)).mono ?_; rintro e w5 ⟨rfl, hb5⟩) | (go_at_call 17; with_reducible refine (HB2.out _ (by assumption)).mono ?_; rintro e w5 ⟨rfl, hb5⟩) | (go_at_call 23; with_reducible refine (HC2.out _ (by assumption)).mono ?_; rintro e w5 ⟨rfl, hb5⟩) | (go_at_call 23; with_reducible refine (HD2.out _ (by assumption)).mono ?_; rintro e w5 ⟨rfl, hb5⟩))
              go_ret
              exact ⟨rfl, by assumption⟩
            · obtain rfl : m = n := by omega
              rw [if_neg (by omega), if_neg (by omega)] at HC
              rw [if_neg (by omega), if_neg (by omega)] at HD
              have HC2 := HC
              have HD2 := HD
              clear HC HD
              obtain rfl : a = b := hinj _ rfl rfl
              have hss := str_self a
              clear hinj hfun
              go_enter Tryd.func9, Tryd.ntmps9
              go_wp2_with (first | (go_at_call 10; with_reducible refine (HAw.out _ (by assumption)).mono ?_; rintro e w5 ⟨rfl, hb5⟩) | (go_at_call 17; with_reducible refine (HA2.out _ (by assumption)).mono ?_; rintro e w5 ⟨rfl, hb5⟩) | (go_at_call 17; with_reducible refine (HB2.out _ (by assumption)).mono ?_; rintro e w5 ⟨rfl, hb5⟩) | (go_at_call 23; with_reducible refine (HC2.out _ (by assumption)).mono ?_; rintro e w5 ⟨rfl, hb5⟩) | (go_at_call 23; with_reducible refine (HD2.out _ (by assumption)).mono ?_; rintro e w5 ⟨rfl, hb5⟩))
              go_ret
              exact ⟨rfl, by assumption⟩
        · have c3 : y < x := by omega
          have c4 : (x == y) = false := by rw [beq_eq_false_iff_ne]; exact c2
          rw [if_neg (by omega), if_pos (.inl c3)] at HC
          rw [if_pos (.inl c3)] at HD
          have HC2 := HC
          have HD2 := HD
          clear HC HD
          have hab : a ≠ b := fun h => by
            have h2 := hfun h
            simp only [Option.some.injEq, Prod.mk.injEq] at h2
            omega
          have hne := str_ne hab
          clear hinj hfun hab
          go_enter Tryd.func9, Tryd.ntmps9
          go_wp2_with (first | (go_at_call 10; with_reducible refine (HAw.out _ (by assumption)).mono ?_; rintro e w5 ⟨rfl, hb5⟩) | (go_at_call 17; with_reducible refine (HA2.out _ (by assumption)).mono ?_; rintro e w5 ⟨rfl, hb5⟩) | (go_at_call 17; with_reducible refine (HB2.out _ (by assumption)).mono ?_; rintro e w5 ⟨rfl, hb5⟩) | (go_at_call 23; with_reducible refine (HC2.out _ (by assumption)).mono ?_; rintro e w5 ⟨rfl, hb5⟩) | (go_at_call 23; with_reducible refine (HD2.out _ (by assumption)).mono ?_; rintro e w5 ⟨rfl, hb5⟩))
          go_ret
          exact ⟨rfl, by assumption⟩
end Go.Proofs.YtbficmdjblimfaaDoor
