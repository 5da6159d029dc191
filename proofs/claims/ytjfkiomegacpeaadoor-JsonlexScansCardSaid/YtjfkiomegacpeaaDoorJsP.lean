/-
  decimal.numeral, decimal.Parse: what is a numeral.
-/
import Derived.Test.YtjfkiomegacpeaaDoorJsT
import Derived.Deep.CutRange
namespace Go.Proofs.YtjfkiomegacpeaaDoor
open Go.RowKit
theorem pre_one (c : UInt8) (l : List UInt8) : Lib.hasPrefix l [c] = (l.head? == some c) := by
  cases l with
  | nil => rfl
  | cons a l =>
    show (c == a && true) = (some a == some c)
    rw [Bool.and_true]
    by_cases h : a = c
    · subst h; simp
    · have h2 : (c == a) = false := beq_eq_false_iff_ne.2 fun e => h e.symm
      have h3 : (some a == some c) = false := beq_eq_false_iff_ne.2 fun e => h (by injection e)
      rw [h2, h3]
def RetM (w : World) (b : Bool) (e : Go.Ending) (w' : World) : Prop :=
  (∃ (neg : Bool) (ao : Option Addr) (k cap : Nat) (x : Int), e = .returned (.tuple #[.agg #[.bool neg, .slice ao k cap, .int .i64 x], .bool b]) ∧ k ≤ 131072 ∧ RdB w' ao k) ∧ Below w.heap.size w w'
theorem pre_call (s : ByteArray) (c : UInt8) (b : Bool) (h : (s.data.toList.head? == some c) = b) (w : World) :
    Calls Tryd.prog 29 #[.string s, .string ⟨#[c]⟩] w fun e w' => e = .returned (.bool b) ∧ w' = w := by
  have := Tryd.strings_HasPrefix s ⟨#[c]⟩ w
  rw [show (⟨#[c]⟩ : ByteArray).data.toList = [c] from rfl, pre_one, h] at this
  exact this
theorem RdB.own {w : World} {base n : Nat} {v : Value} {xs : List Value} (h : w.ownsRow base 5 1 v n xs) (hn : 0 < n) (hx : ∀ u ∈ xs, ∃ i : Int, u = .int .u8 i ∧ 0 ≤ i ∧ i ≤ 255) : ∃ g cap, v = .slice (some ⟨g, 0, none⟩) n cap ∧ n ≤ cap ∧ RdB w (some ⟨g, 0, none⟩) n := by
  have hh := h
  rcases h.2 with ⟨_, h0⟩ | ⟨g, cap, cur, hv, hbg, hg, hnc, r⟩
  · omega
  · subst hv
    refine ⟨g, cap, rfl, hnc, fun _ => ⟨g, 0, rfl, (World.ownsRow.lt hh g rfl).2, fun j hj => ?_⟩⟩
    have hc := World.ownsRow.cellAt hh j (by omega)
    have hl : j < xs.length := by rw [hh.1]; omega
    rw [List.getElem?_eq_getElem hl] at hc
    obtain ⟨i, hi, hi2⟩ := hx _ (List.getElem_mem hl)
    exact ⟨i, by rw [Nat.zero_add, hc, hi], hi2⟩
theorem blk_own {w : World} {base g n : Nat} {f : Nat → Int} (h : Blk w g 5 (arrOf .u8 n f)) (hb : base ≤ g) (hn : n ≤ 1099511627) : w.ownsRow base 5 1 (.slice (some ⟨g, 0, none⟩) n n) n (arrOf .u8 n f).toList := by
  refine ⟨by rw [Array.length_toList, arr_size]; omega, Or.inr ⟨g, n, _, rfl, hb, h, Nat.le_refl _, by unfold maxLen; omega, by rw [arr_size]; omega, ?_⟩⟩
  rw [List.take_of_length_le (by rw [Array.length_toList, arr_size]; omega)]
theorem arr_bytes (n : Nat) (f : Nat → Int) (hf : ∀ j, 0 ≤ f j ∧ f j ≤ 255) : ∀ u ∈ (arrOf .u8 n f).toList, ∃ i : Int, u = .int .u8 i ∧ 0 ≤ i ∧ i ≤ 255 := by
  intro v hv
  simp only [arrOf, List.mem_map] at hv
  obtain ⟨j, _, rfl⟩ := hv
  exact ⟨_, rfl, hf j⟩
theorem head_none (s : ByteArray) (c : UInt8) (h : 0 < s.size) : (s.data.toList.head? == some c) = (s[0] == c) := by
  have h0 := drop_at s 0 h
  rw [List.drop_zero] at h0
  rw [h0]
  rfl
section
variable {P : Program} {w : World} {ops : Array Oper} {rest : List Oper} {o : Oper} {a : Act} {Q : Exit → Act → World → Prop}
theorem wpList_append_bytes (hgd : o.guard = none) (s x : Operand) (t : TypeId) (ho : o.op = .call { callee := .builtin .append, args := #[s, x], argTypes := #[t, t] })
    (e : TypeId) (hE : ElemRow P t e (.int .u8 0) 1 1) (base : Nat) (v : Value) (n : Nat) (xs : List Value) (g m c : Nat) (news : List Value)
    (hs : a.eval s = v) (hx : a.eval x = .slice (some ⟨g, 0, none⟩) m c) (hown : w.ownsRow base e 1 v n xs)
    (hl : news.length = m) (hnews : ∀ j u, news[j]? = some u → w.cell? ⟨g, j, none⟩ = some u) (h1 : ∀ u ∈ news, u.oneCell' = true)
    (hbytes : n + m ≤ 1099511627776) (hbase : base ≤ w.heap.size)
    (h : ∀ v' w', w'.ownsRow base e 1 v' (n + m) (xs ++ news) → w.grownBy w' v.ownBlock → Below base w w' → wpList P ops Q rest (a.put o.dst v') w') : wpList P ops Q (o :: rest) a w := by
  obtain ⟨i, hi, hz, hsz, hby⟩ := info_parts hE.row
  refine wpList_append_own w hgd s x t ho base e i _ 1 1 hE.slice hi hz hsz hby hE.cells hE.pos v n xs hs hown ⟨g, 0, none⟩ m c news hx (by rw [hl, Nat.mul_one]) (fun j u hu => ?_) h1 (by unfold maxLen; omega) (by omega) hbase (fun v' w' h2 h3 _ => h v' w' h2 h3 ?_)
  · have hadd : (⟨g, 0, none⟩ : Addr).add j = ⟨g, j, none⟩ := by unfold Addr.add; split <;> simp_all
    rw [hadd]
    exact hnews j u hu
  · exact (Below.refl base w).grown h3 hbase fun k hk => (hown.lt k hk).1
end
theorem emp_list (s : ByteArray) (h : s.size = 0) : s.data.toList = [] := List.eq_nil_of_length_eq_zero (by rw [size_toList]; exact h)
theorem emp_lf (s : ByteArray) (h : ¬ s.size = 0) : s.data.toList.isEmpty = false := by
  rw [List.isEmpty_eq_false_iff]
  intro e
  rw [← size_toList, e] at h
  exact h rfl
theorem emp_true (s : ByteArray) (h : s.size = 0) : s.toList.isEmpty = true := by
  rw [toList_eq, List.isEmpty_iff]
  exact emp_list s h
theorem emp_false (s : ByteArray) (h : ¬ s.size = 0) : s.toList.isEmpty = false := by
  rw [toList_eq]
  exact emp_lf s h
theorem run_full (s : ByteArray) (h : Jsn.run Jsn.dig s.data.toList = s.size) : ∀ j (h : j < s.size), Jsn.dig s[j] = true := by
  intro j hj
  have h1 : s.data.toList.take (Jsn.run Jsn.dig s.data.toList) = s.data.toList := by
    rw [h, ← size_toList]; exact List.take_length
  have h2 := Jsn.run_all Jsn.dig s.data.toList s[j] (by rw [h1]; exact List.mem_iff_getElem.2 ⟨j, by rw [size_toList]; exact hj, rfl⟩)
  exact h2
theorem RdB.rowN {w : World} {ao : Option Addr} {n b : Nat} {p : Bool} {q : Option Addr} {l c : Nat} {y : Int} (h : RdB w ao n) (hB : Blk w b 99 #[.bool p, .slice q l c, .int .i64 y]) (cs : Array Value) : RdB (w.setRow b cs) ao n := by
  intro hn
  obtain ⟨g, off, rfl, h2, h3⟩ := h hn
  have hgb : b ≠ g := by
    rintro rfl
    obtain ⟨v, hv, _⟩ := h3 0 hn
    rw [hB.at_, Nat.add_zero] at hv
    match off, hv with
    | 0, hv => simp at hv
    | 1, hv => simp at hv
    | 2, hv => simp at hv
    | k + 3, hv => simp at hv
  refine ⟨g, off, rfl, by simpa [World.setRow] using h2, fun j hj => ?_⟩
  obtain ⟨v, h4, h5⟩ := h3 j hj
  refine ⟨v, ?_, h5⟩
  rw [World.cell?_of_block (setRow_other w b g cs (Ne.symm hgb))]
  exact h4
theorem tail_eq (s s1 : ByteArray) (n : Nat) (h : s1 = s.extract n s.size) : s1.data.toList = s.data.toList.drop n ∧ s1.size = s.size - n := by
  subst h
  exact ⟨Lib.extract_to_end s n, ext_size s n⟩
set_option maxRecDepth 100000 in
set_option maxHeartbeats 8000000 in
theorem numeral_any (s : ByteArray) (w : World) (hs : s.size ≤ 65536) :
    Calls Tryd.prog 61 #[.string s] w (RetM w (Jsn.numeral s.data.toList)) := by
  obtain ⟨neg, hneg⟩ : ∃ b, b = (s.data.toList.head? == some 45) := ⟨_, rfl⟩
  have HP := Lib.hid (pre_call s 45 neg hneg.symm)
  obtain ⟨s1, hs1⟩ : ∃ s1, s1 = if neg then s.extract 1 s.size else s := ⟨_, rfl⟩
  have hN : Jsn.numeral s.data.toList = Jsn.whole s1.data.toList := by
    unfold Jsn.numeral
    rw [← hneg, hs1]
    cases neg with
    | true => simp only [if_true]; rw [Lib.extract_to_end]
    | false => rfl
  have hz1 : s1.size ≤ s.size ∧ (neg = true → 1 ≤ s.size) := by
    refine ⟨?_, ?_⟩
    · rw [hs1]
      cases neg with
      | true => simp only [if_true]; rw [ext_size]; omega
      | false => exact Nat.le_refl _
    · rintro rfl
      rw [← size_toList]
      cases hl : s.data.toList with
      | nil => rw [hl] at hneg; simp at hneg
      | cons a l => simp
  obtain ⟨R, hR⟩ : ∃ R, R = Jsn.numeral s.data.toList := ⟨_, rfl⟩
  rw [← hR]
  have HW : Hid (R = Jsn.whole s1.data.toList) := Lib.hid (hR.trans hN)
  have HS1 := Lib.hid hs1
  obtain ⟨hz1, hz2⟩ := hz1
  clear hneg hs1 hN hR
  go_enter Tryd.func61, Tryd.ntmps61
  go_wp2_with fail
  refine (HP.out _).mono ?_
  rintro e w1 ⟨rfl, rfl⟩
  have hN1 : Blk (w.alloc (.cells #[.bool false, .slice none 0 0, .int .i64 0] 99)) w.heap.size 99 #[.bool false, .slice none 0 0, .int .i64 0] := Blk.new _ _ _
  have hb1 := below_alloc (w := w) (.cells #[.bool false, .slice none 0 0, .int .i64 0] 99)
  generalize w.alloc (.cells #[.bool false, .slice none 0 0, .int .i64 0] 99) = w1 at *
  go_upto_if 12 with fail
  go_cut [0] from 13 to 14 (fun sv wx => sv = .string s1 ∧ wx = w1)
  case first =>
    cases neg with
    | true =>
      have h1 := hz2 rfl
      have hs1 := HS1.out
      simp only [if_true] at hs1
      have g1 : (1 : Int) ≤ s.size := by omega
      subst hs1
      go_wp2_with fail
      go_meet
      case rel => exact ⟨rfl, rfl⟩
    | false =>
      have hs1 := HS1.out
      simp only [Bool.false_eq_true, if_false] at hs1
      subst hs1
      go_wp2_with fail
      go_meet
      case rel => exact ⟨rfl, rfl⟩
  case rest =>
    obtain ⟨rfl, rfl⟩ := hcut
    obtain ⟨n, hn⟩ : ∃ n, n = Jsn.run Jsn.dig s1.data.toList := ⟨_, rfl⟩
    have HR := fun w => drun_any s1 w (by omega)
    have hle := Jsn.run_le Jsn.dig s1.data.toList
    obtain ⟨bad, hbad⟩ : ∃ b, b = (n == 0 || (decide (1 < n) && s1.data.toList.head? == some 48)) := ⟨_, rfl⟩
    have hW : R = if bad then false else Jsn.frac (s1.data.toList.drop n) := by rw [HW.out, hbad, hn]; rfl
    rw [← hn] at HR hle
    rw [size_toList] at hle
    have HR := Lib.hid HR
    have HW := Lib.hid hW
    clear hn hW HS1 HP hz2
    go_wp2_with fail
    refine (HR.out _).mono ?_
    rintro e w2 ⟨rfl, rfl⟩
    clear HR
    go_upto_region 5 with fail
    go_cut [27] from 17 to 27 (fun b wx => b = .bool bad ∧ wx = wc)
    case first =>
      by_cases hn0 : n = 0
      · subst hn0
        have hb : bad = true := by rw [hbad]; rfl
        subst hb
        clear hbad HW
        go_wp2_with fail
        go_meet
        case rel => exact ⟨rfl, rfl⟩
      · have hn1 : ((n : Int) == 0) = false := by rw [beq_eq_false_iff_ne]; omega
        have hn2 : (n == 0) = false := by rw [beq_eq_false_iff_ne]; exact hn0
        have h0 : 0 < s1.size := by omega
        rw [head_none s1 48 h0, hn2] at hbad
        by_cases h1n : 1 < n
        · have hd1 : 1 < (n : Int) := by omega
          by_cases h48 : s1[0] = 48
          · have hb : bad = true := by rw [hbad, decide_eq_true h1n, h48]; rfl
            have n48 : ((s1[0].toNat : Int) == 48) = true := by rw [h48]; rfl
            subst hb
            clear hbad HW h48
            go_wp2_with fail
            go_meet
            case rel => exact ⟨rfl, rfl⟩
          · have hb : bad = false := by rw [hbad, beq_eq_false_iff_ne.2 h48]; simp
            have n48 : ((s1[0].toNat : Int) == 48) = false := byte_ne 48 h48
            subst hb
            clear hbad HW h48
            go_wp2_with fail
            go_meet
            case rel => exact ⟨rfl, rfl⟩
        · have hd1 : ¬ (1 < (n : Int)) := by omega
          have hb : bad = false := by rw [hbad, decide_eq_false h1n]; rfl
          subst hb
          clear hbad HW
          go_wp2_with fail
          go_meet
          case rel => exact ⟨rfl, rfl⟩
    case rest =>
      obtain ⟨rfl, rfl⟩ := hcut
      cases bad with
      | true =>
        have hR : R = false := HW.out
        clear HW hbad
        go_wp2_with ((with_reducible refine wpList_store_three rfl 99 (.tmp 2) (.tmp 28) rfl rfl w.heap.size (.bool false) (.slice none 0 0) (.int .i64 0) (.bool false) (.slice none 0 0) (.int .i64 0) 99 numRow (one_bool _) (one_slice _ _ _) (one_int _ _) ?_ ?_ hN1 ?_); exact rfl; exact rfl)
        refine bodyPost_ret (v := .tuple #[.agg #[.bool false, .slice none 0 0, .int .i64 0], .bool false]) (by exact results_cell_tmp rfl _ _ w.heap.size 99 #[.bool false, .slice none 0 0, .int .i64 0] _ (.bool false) rfl rfl (hN1.row _) Tryd.underlying99 rfl numRow) rfl ?_
        rw [hR]
        exact ⟨⟨false, none, 0, 0, 0, rfl, Nat.zero_le _, RdB.zero _ _⟩, setRow_below hb1 (Nat.le_refl _) _⟩
      | false =>
        have hR : R = Jsn.frac (s1.data.toList.drop n) := HW.out
        have hn0 : 0 < n := by
          rcases Nat.eq_zero_or_pos n with h | h
          · subst h; simp at hbad
          · exact h
        clear HW hbad
        obtain ⟨s2, hs2⟩ : ∃ s2, s2 = s1.extract n s1.size := ⟨_, rfl⟩
        obtain ⟨d1, hd1⟩ : ∃ d1, d1 = s1.extract 0 n := ⟨_, rfl⟩
        obtain ⟨e2a, e2b⟩ := tail_eq s1 s2 n hs2
        have e2c : s2.size + n ≤ s1.size := by omega
        clear e2b
        have hdz : d1.size = n := by rw [hd1, ByteArray.size_extract]; omega
        rw [← e2a] at hR
        have HRf := Lib.hid hR
        have HBy := Lib.hid (fun w => dbytes_any d1 w (by omega))
        obtain ⟨fr, hfr⟩ : ∃ b, b = (s2.data.toList.head? == some 46) := ⟨_, rfl⟩
        have HP2 := Lib.hid (pre_call s2 46 fr hfr.symm)
        have HE1 := Lib.hid hd1
        have HE2 := Lib.hid hs2
        have HFR := Lib.hid hfr
        have g1 : (n : Int) ≤ s1.size := by omega
        clear hR hs2 hd1 e2a hfr
        go_wp2_with fail
        rw [← HE1.out]
        refine (HBy.out _).mono ?_
        rintro e w3 ⟨⟨g, f, rfl, hg3, hB3, hf3⟩, hb3⟩
        rw [hdz] at *
        have hN3 := hN1.below hb3 hN1.lt
        have hb13 := hb1.trans (hb3.mono hb1.size)
        have hg0 : w.heap.size < g := Nat.lt_of_lt_of_le hN1.lt hg3
        have HF3 := Lib.hid hf3
        clear hN1 hb1 hb3 hg3 HBy hf3
        go_wp2_with fail
        rw [← HE2.out]
        refine (HP2.out _).mono ?_
        rintro e w4 ⟨rfl, rfl⟩
        clear HE1 HE2 HP2
        go_upto_if 37 with fail
        go_cut [0, 5, 6, 7] from 38 to 56 (fun sv nv dv ev wx => ∃ (s3 : ByteArray) (nn gd nd cap : Nat) (x : Int), sv = .string s3 ∧ nv = .int .i64 nn ∧ dv = .slice (some ⟨gd, 0, none⟩) nd cap ∧ ev = .int .i64 x ∧ s3.size ≤ 65536 ∧ nd ≤ 65536 ∧ nd ≤ cap ∧ -65536 ≤ x ∧ x ≤ 65536 ∧ RdB wx (some ⟨gd, 0, none⟩) nd ∧ Hid (R = Jsn.expo s3.data.toList) ∧ Below w.heap.size w wx ∧ Blk wx w.heap.size 99 #[.bool false, .slice none 0 0, .int .i64 0])
        case first =>
          cases fr with
          | false =>
            have HR3 : Hid (R = Jsn.expo s2.data.toList) := Lib.hid (by
              rw [HRf.out]
              have := HFR.out
              cases hl : s2.data.toList with
              | nil => rfl
              | cons a l =>
                rw [hl] at this
                have ha : a ≠ 46 := fun e => by rw [e] at this; simp at this
                unfold Jsn.frac
                split
                · rename_i heq
                  injection heq with h1 h2
                  exact absurd h1 ha
                · rfl)
            clear HRf HFR
            go_wp2_with fail
            go_meet
            case rel => exact ⟨s2, n, g, n, n, 0, rfl, rfl, rfl, rfl, by omega, by omega, Nat.le_refl _, by omega, by omega, RdB.blk hB3 HF3.out, HR3, hb13, hN3⟩
          | true =>
            have h46 : ∃ r, s2.data.toList = 46 :: r := by
              have := HFR.out
              cases hl : s2.data.toList with
              | nil => rw [hl] at this; simp at this
              | cons a l =>
                rw [hl] at this
                have ha : a = 46 := by simpa using this.symm
                exact ⟨l, by rw [ha]⟩
            obtain ⟨r, hr⟩ := h46
            have hz2 : 1 ≤ s2.size := by rw [← size_toList, hr]; simp
            have hr1 : s2.data.toList.drop 1 = r := by rw [hr]; rfl
            obtain ⟨q, hq⟩ : ∃ q, q = s2.extract 1 s2.size := ⟨_, rfl⟩
            obtain ⟨qa, qb⟩ := tail_eq s2 q 1 hq
            have qc : q.size + 1 ≤ s2.size := by omega
            clear qb
            obtain ⟨m, hm⟩ : ∃ m, m = Jsn.run Jsn.dig q.data.toList := ⟨_, rfl⟩
            have HRq := fun w => drun_any q w (by omega)
            have hlq := Jsn.run_le Jsn.dig q.data.toList
            have hRq : R = (m != 0 && Jsn.expo (q.data.toList.drop m)) := by
              rw [HRf.out, hr, hm, qa, hr1]
              rfl
            rw [← hm] at HRq hlq
            rw [size_toList] at hlq
            have HRq := Lib.hid HRq
            have HQ := Lib.hid hq
            have HRR := Lib.hid hRq
            have g2 : (1 : Int) ≤ s2.size := by omega
            clear hRq hq qa hm hr hr1 HRf HFR
            go_wp2_with fail
            rw [← HQ.out]
            refine (HRq.out _).mono ?_
            rintro e w5 ⟨rfl, rfl⟩
            clear HRq
            by_cases hm0 : m = 0
            · subst hm0
              have hR : R = false := HRR.out
              clear HRR
              go_wp2_with ((with_reducible refine wpList_store_three rfl 99 (.tmp 2) (.tmp 43) rfl rfl w.heap.size (.bool false) (.slice none 0 0) (.int .i64 0) (.bool false) (.slice none 0 0) (.int .i64 0) 99 numRow (one_bool _) (one_slice _ _ _) (one_int _ _) ?_ ?_ hN3 ?_); exact rfl; exact rfl)
              refine bodyPost_ret (v := .tuple #[.agg #[.bool false, .slice none 0 0, .int .i64 0], .bool false]) (by exact results_cell_tmp rfl _ _ w.heap.size 99 #[.bool false, .slice none 0 0, .int .i64 0] _ (.bool false) rfl rfl (hN3.row _) Tryd.underlying99 rfl numRow) rfl ?_
              rw [hR]
              exact ⟨⟨false, none, 0, 0, 0, rfl, Nat.zero_le _, RdB.zero _ _⟩, setRow_below hb13 (Nat.le_refl _) _⟩
            · have hm1 : ((m : Int) == 0) = false := by rw [beq_eq_false_iff_ne]; omega
              obtain ⟨d2, hd2⟩ : ∃ d2, d2 = s2.extract 1 (m + 1) := ⟨_, rfl⟩
              obtain ⟨s3, hs3⟩ : ∃ s3, s3 = s2.extract (m + 1) s2.size := ⟨_, rfl⟩
              obtain ⟨e3a, e3b⟩ := tail_eq s2 s3 (m + 1) hs3
              have e3c : s3.size + m ≤ s2.size := by omega
              clear e3b
              have hdz2 : d2.size = m := by rw [hd2, ByteArray.size_extract]; omega
              have HBy := Lib.hid (fun w => dbytes_any d2 w (by omega))
              have HR3 : Hid (R = Jsn.expo s3.data.toList) := Lib.hid (by
                have h := HRR.out
                rw [HQ.out, Lib.extract_to_end, List.drop_drop, Nat.add_comm 1 m] at h
                rw [h, e3a]
                have : (m != 0) = true := bne_iff_ne.2 hm0
                rw [this]; rfl)
              have HE3 := Lib.hid hs3
              have HD2 := Lib.hid hd2
              have g3 : (m : Int) + 1 ≤ s2.size := by omega
              have g4 : ((m : Int) + 1).toNat = m + 1 := by omega
              have g5 : (1 : Int) ≤ (m : Int) + 1 := by omega
              have g6 : (0 : Int) ≤ (m : Int) + 1 := by omega
              clear hm0 hs3 hd2 e3a HRR
              go_wp2_with fail
              rw [← HD2.out]
              refine (HBy.out _).mono ?_
              rintro e w5 ⟨⟨ga, fa, rfl, hga, hBa, hfa⟩, hb5⟩
              rw [hdz2] at *
              have hB5 := hB3.below hb5 hB3.lt
              have hN5 := hN3.below hb5 hN3.lt
              have hb15 := hb13.trans (hb5.mono hb13.size)
              have hO5 := blk_own (base := w.heap.size) hB5 (by omega) (by omega)
              have HBB := Lib.hid (fun u (hu : u ∈ (arrOf .u8 n f).toList ++ (arrOf .u8 m fa).toList) => (List.mem_append.1 hu).elim (arr_bytes n f HF3.out u) (arr_bytes m fa hfa u))
              have HSA : Hid (∀ (j : Nat) u, (arrOf .u8 m fa).toList[j]? = some u → w5.cell? ⟨ga, j, none⟩ = some u) := Lib.hid (fun j u h => by rw [hBa.at_ j, ← Array.getElem?_toList]; exact h)
              clear hB3 hb13 hN3 hb5 HBy hfa hB5
              go_wp2_with ((with_reducible refine wpList_append_bytes rfl (.tmp 44) (.tmp 49) 39 rfl 5 byteRowJ w.heap.size _ n (arrOf .u8 n f).toList ga m m (arrOf .u8 m fa).toList ?_ ?_ hO5 ?_ HSA.out (arr_ones _ _) ?_ hb15.size ?_); exact rfl; exact rfl; (rw [Array.length_toList, arr_size]); omega)
              intro v' w6 hown6 hgr6 hb6
              have hN6 := hN5.grownB hO5 (by decide) hgr6
              obtain ⟨gd, cp, rfl, hcp, hrd⟩ := RdB.own hown6 (by omega) HBB.out
              have hb16 := hb15.trans hb6
              clear hown6 hgr6 hb6 hO5 hN5 HSA HBB hBa hb15
              go_wp2_with fail
              rw [← HE3.out]
              go_meet
              case rel => exact ⟨s3, m, gd, n + m, cp, -(m : Int), rfl, rfl, rfl, rfl, by omega, by omega, hcp, by omega, by omega, hrd, HR3, hb16, hN6⟩
        case rest =>
          clear HRf HFR hB3 HF3 hN3 hb13
          obtain ⟨s3, nn, gd, nd, cap, x, rfl, rfl, rfl, rfl, hz3, hnd, hcap, hx0, hx1, hrd, HE, hbw, hNw⟩ := hcut
          by_cases hz0 : s3.size = 0
          · have h1 : s3.toList.isEmpty = true := emp_true s3 hz0
            have hR : R = true := by rw [HE.out, emp_list s3 hz0]; rfl
            clear HE
            go_wp2_with fail
            refine (dnorm_any _ _ _ _ _ _ hnd hcap hrd (by omega) (by omega)).mono ?_
            rintro e w7 ⟨⟨ng, ao, kk, cp, xx, rfl, hkn, -, hrd7, -⟩, hb7⟩
            have hN7 := hNw.below hb7 hNw.lt
            have hb17 := hbw.trans (hb7.mono hbw.size)
            clear hrd hb7 hbw hNw
            go_wp2_with ((with_reducible refine wpList_store_three rfl 99 (.tmp 2) (.tmp 100) rfl rfl w.heap.size (.bool false) (.slice none 0 0) (.int .i64 0) (.bool ng) (.slice ao kk cp) (.int .i64 xx) 99 numRow (one_bool _) (one_slice _ _ _) (one_int _ _) ?_ ?_ hN7 ?_); exact rfl; exact rfl)
            refine bodyPost_ret (v := .tuple #[.agg #[.bool ng, .slice ao kk cp, .int .i64 xx], .bool true]) (by exact results_cell_tmp rfl _ _ w.heap.size 99 #[.bool ng, .slice ao kk cp, .int .i64 xx] _ (.bool true) rfl rfl (hN7.row _) Tryd.underlying99 rfl numRow) rfl ?_
            rw [hR]
            exact ⟨⟨ng, ao, kk, cp, xx, rfl, by omega, hrd7.rowN hN7 _⟩, setRow_below hb17 (Nat.le_refl _) _⟩
          · have h1 : s3.toList.isEmpty = false := emp_false s3 hz0
            have hp0 : 0 < s3.size := by omega
            have hI : (0 : Int) < s3.size := by omega
            have hI1 : (1 : Int) ≤ s3.size := by omega
            obtain ⟨c, hc⟩ : ∃ c, c = s3[0] := ⟨_, rfl⟩
            obtain ⟨s4, hs4⟩ : ∃ s4, s4 = s3.extract 1 s3.size := ⟨_, rfl⟩
            obtain ⟨e4a, e4b⟩ := tail_eq s3 s4 1 hs4
            have e4c : s4.size + 1 ≤ s3.size := by omega
            clear e4b
            have hRe : R = ((c == 101 || c == 69) && (let t := if s4.data.toList.head? == some 45 || s4.data.toList.head? == some 43 then s4.data.toList.drop 1 else s4.data.toList
                !t.isEmpty && Jsn.run Jsn.dig t == t.length)) := by
              rw [HE.out]
              have h0 := drop_at s3 0 hp0
              rw [List.drop_zero] at h0
              rw [h0, ← hc, e4a]
              rfl
            clear HE
            by_cases hee : (c == 101 || c == 69) = true
            · have HR4 : Hid (R = (let t := if s4.data.toList.head? == some 45 || s4.data.toList.head? == some 43 then s4.data.toList.drop 1 else s4.data.toList
                  !t.isEmpty && Jsn.run Jsn.dig t == t.length)) := Lib.hid (by rw [hRe, hee, Bool.true_and])
              clear hRe
              have hw2 : ((c.toNat : Int) != 101) = false ∨ ((c.toNat : Int) != 101) = true ∧ ((c.toNat : Int) != 69) = false := by
                rcases Bool.or_eq_true_iff.1 hee with h | h
                · left; rw [eq_of_beq h]; rfl
                · right; rw [eq_of_beq h]; exact ⟨rfl, rfl⟩
              have HS4 := Lib.hid hs4
              obtain ⟨mi, hmi⟩ : ∃ b, b = (s4.data.toList.head? == some 45) := ⟨_, rfl⟩
              obtain ⟨pl, hpl⟩ : ∃ b, b = (s4.data.toList.head? == some 43) := ⟨_, rfl⟩
              have HM := Lib.hid (pre_call s4 45 mi hmi.symm)
              have HPl := Lib.hid (pre_call s4 43 pl hpl.symm)
              obtain ⟨q, hq⟩ : ∃ q, q = (mi || pl) := ⟨_, rfl⟩
              obtain ⟨s5, hs5⟩ : ∃ s5, s5 = if q then s4.extract 1 s4.size else s4 := ⟨_, rfl⟩
              have hR5 : R = (!s5.data.toList.isEmpty && Jsn.run Jsn.dig s5.data.toList == s5.data.toList.length) := by
                rw [HR4.out, ← hmi, ← hpl, hs5, ← hq]
                cases q with
                | true => simp only [if_true]; rw [Lib.extract_to_end]
                | false => rfl
              have hz5 : s5.size ≤ s4.size ∧ (q = true → 1 ≤ s4.size) := by
                refine ⟨?_, fun h => ?_⟩
                · rw [hs5]
                  split
                  · rw [ext_size]; omega
                  · exact Nat.le_refl _
                · rw [← size_toList]
                  cases hl : s4.data.toList with
                  | nil => rw [hq, hmi, hpl, hl] at h; simp at h
                  | cons a l => simp
              obtain ⟨k, hk⟩ : ∃ k, k = Jsn.run Jsn.dig s5.data.toList := ⟨_, rfl⟩
              have HRk := fun w => drun_any s5 w (by omega)
              rw [← hk] at HRk hR5
              have HRk := Lib.hid HRk
              have HR5 := Lib.hid hR5
              have HS5 := Lib.hid hs5
              have HK := Lib.hid hk
              obtain ⟨hz5, hz6⟩ := hz5
              clear hmi hpl hs4 hs5 hR5 HR4 hk e4a
              go_upto_region 18 with fail
              go_cut [66] from 59 to 66 (fun b wx => b = .bool false ∧ wx = wc)
              case first =>
                rcases hw2 with hw2 | ⟨hw2, hw3⟩
                · rw [hc] at hw2
                  clear HM HPl HRk HR5 HS5 HK hc hee HS4
                  go_wp2_with fail
                  go_meet
                  case rel => exact ⟨rfl, rfl⟩
                · rw [hc] at hw2 hw3
                  clear HM HPl HRk HR5 HS5 HK hc hee HS4
                  go_wp2_with fail
                  go_meet
                  case rel => exact ⟨rfl, rfl⟩
              case rest =>
                obtain ⟨rfl, rfl⟩ := hcut
                clear hw2 hee hc
                go_wp2_with fail
                rw [← HS4.out]
                clear HS4
                refine (HM.out _).mono ?_
                rintro e w5 ⟨rfl, rfl⟩
                go_upto_region 22 with fail
                go_cut [76] from 72 to 76 (fun b wx => b = .bool q ∧ wx = w5)
                case first =>
                  clear HM HRk HR5 HK HS5
                  cases mi with
                  | true =>
                    have hq2 : q = true := hq
                    subst hq2
                    clear hq
                    go_wp2_with fail
                    go_meet
                    case rel => exact ⟨rfl, rfl⟩
                  | false =>
                    go_wp2_with fail
                    refine (HPl.out _).mono ?_
                    rintro e w6 ⟨rfl, rfl⟩
                    have hq2 : q = pl := by rw [hq]; rfl
                    subst hq2
                    clear hq
                    go_wp2_with fail
                    go_meet
                    case rel => exact ⟨rfl, rfl⟩
                case rest =>
                  obtain ⟨rfl, rfl⟩ := hcut
                  clear HPl
                  go_upto_if 76 with fail
                  go_cut [0] from 77 to 78 (fun sv wx => sv = .string s5 ∧ wx = wc)
                  case first =>
                    have hs5 := HS5.out
                    clear HM HRk HR5 HK HS5 hq
                    cases q with
                    | true =>
                      have h1 := hz6 rfl
                      have g1 : (1 : Int) ≤ s4.size := by omega
                      simp only [if_true] at hs5
                      subst hs5
                      go_wp2_with fail
                      go_meet
                      case rel => exact ⟨rfl, rfl⟩
                    | false =>
                      simp only [Bool.false_eq_true, if_false] at hs5
                      subst hs5
                      go_wp2_with fail
                      go_meet
                      case rel => exact ⟨rfl, rfl⟩
                  obtain ⟨rfl, rfl⟩ := hcut
                  clear HS5 HM hz6 hq
                  by_cases hz7 : s5.size = 0
                  · have h7 : s5.toList.isEmpty = true := emp_true s5 hz7
                    have hR : R = false := by rw [HR5.out, emp_list s5 hz7]; rfl
                    clear HR5 HRk HK
                    go_wp2_with ((with_reducible refine wpList_store_three rfl 99 (.tmp 2) (.tmp 88) rfl rfl w.heap.size (.bool false) (.slice none 0 0) (.int .i64 0) (.bool false) (.slice none 0 0) (.int .i64 0) 99 numRow (one_bool _) (one_slice _ _ _) (one_int _ _) ?_ ?_ hNw ?_); exact rfl; exact rfl)
                    refine bodyPost_ret (v := .tuple #[.agg #[.bool false, .slice none 0 0, .int .i64 0], .bool false]) (by exact results_cell_tmp rfl _ _ w.heap.size 99 #[.bool false, .slice none 0 0, .int .i64 0] _ (.bool false) rfl rfl (hNw.row _) Tryd.underlying99 rfl numRow) rfl ?_
                    rw [hR]
                    exact ⟨⟨false, none, 0, 0, 0, rfl, Nat.zero_le _, RdB.zero _ _⟩, setRow_below hbw (Nat.le_refl _) _⟩
                  · have h7 : s5.toList.isEmpty = false := emp_false s5 hz7
                    by_cases hk5 : k = s5.size
                    · have hR : R = true := by
                        rw [HR5.out, size_toList, hk5, emp_lf s5 hz7]; simp
                      have hall : ∀ j (h : j < s5.size), Jsn.dig s5[j] = true := run_full s5 (by rw [← HK.out, hk5])
                      have HSm := Lib.hid (fun w => dsmall_any s5 w (by omega) hall)
                      have k7 : ((k : Int) != s5.size) = false := by rw [hk5]; simp
                      clear HR5 HK hall hk5
                      go_wp2_with fail
                      refine (HRk.out _).mono ?_
                      rintro e w6 ⟨rfl, rfl⟩
                      go_wp2_with fail
                      refine (HSm.out _).mono ?_
                      rintro e w6 ⟨⟨y, rfl, hy0, hy1⟩, rfl⟩
                      clear HSm HRk
                      cases mi with
                      | true =>
                        go_wp2_with fail
                        refine (dnorm_any _ _ _ _ _ _ hnd hcap hrd (by omega) (by omega)).mono ?_
                        rintro e w7 ⟨⟨ng, ao, kk, cp, xx, rfl, hkn, -, hrd7, -⟩, hb7⟩
                        have hN7 := hNw.below hb7 hNw.lt
                        have hb17 := hbw.trans (hb7.mono hbw.size)
                        clear hrd hb7 hbw hNw
                        go_wp2_with ((with_reducible refine wpList_store_three rfl 99 (.tmp 2) (.tmp 100) rfl rfl w.heap.size (.bool false) (.slice none 0 0) (.int .i64 0) (.bool ng) (.slice ao kk cp) (.int .i64 xx) 99 numRow (one_bool _) (one_slice _ _ _) (one_int _ _) ?_ ?_ hN7 ?_); exact rfl; exact rfl)
                        refine bodyPost_ret (v := .tuple #[.agg #[.bool ng, .slice ao kk cp, .int .i64 xx], .bool true]) (by exact results_cell_tmp rfl _ _ w.heap.size 99 #[.bool ng, .slice ao kk cp, .int .i64 xx] _ (.bool true) rfl rfl (hN7.row _) Tryd.underlying99 rfl numRow) rfl ?_
                        rw [hR]
                        exact ⟨⟨ng, ao, kk, cp, xx, rfl, by omega, hrd7.rowN hN7 _⟩, setRow_below hb17 (Nat.le_refl _) _⟩
                      | false =>
                        go_wp2_with fail
                        refine (dnorm_any _ _ _ _ _ _ hnd hcap hrd (by omega) (by omega)).mono ?_
                        rintro e w7 ⟨⟨ng, ao, kk, cp, xx, rfl, hkn, -, hrd7, -⟩, hb7⟩
                        have hN7 := hNw.below hb7 hNw.lt
                        have hb17 := hbw.trans (hb7.mono hbw.size)
                        clear hrd hb7 hbw hNw
                        go_wp2_with ((with_reducible refine wpList_store_three rfl 99 (.tmp 2) (.tmp 100) rfl rfl w.heap.size (.bool false) (.slice none 0 0) (.int .i64 0) (.bool ng) (.slice ao kk cp) (.int .i64 xx) 99 numRow (one_bool _) (one_slice _ _ _) (one_int _ _) ?_ ?_ hN7 ?_); exact rfl; exact rfl)
                        refine bodyPost_ret (v := .tuple #[.agg #[.bool ng, .slice ao kk cp, .int .i64 xx], .bool true]) (by exact results_cell_tmp rfl _ _ w.heap.size 99 #[.bool ng, .slice ao kk cp, .int .i64 xx] _ (.bool true) rfl rfl (hN7.row _) Tryd.underlying99 rfl numRow) rfl ?_
                        rw [hR]
                        exact ⟨⟨ng, ao, kk, cp, xx, rfl, by omega, hrd7.rowN hN7 _⟩, setRow_below hb17 (Nat.le_refl _) _⟩
                    · have k7 : ((k : Int) != s5.size) = true := by rw [bne_iff_ne]; omega
                      have hR : R = false := by
                        rw [HR5.out, size_toList, beq_eq_false_iff_ne.2 hk5, Bool.and_false]
                      clear HR5 HK hk5
                      go_wp2_with fail
                      refine (HRk.out _).mono ?_
                      rintro e w6 ⟨rfl, rfl⟩
                      clear HRk
                      go_wp2_with ((with_reducible refine wpList_store_three rfl 99 (.tmp 2) (.tmp 88) rfl rfl w.heap.size (.bool false) (.slice none 0 0) (.int .i64 0) (.bool false) (.slice none 0 0) (.int .i64 0) 99 numRow (one_bool _) (one_slice _ _ _) (one_int _ _) ?_ ?_ hNw ?_); exact rfl; exact rfl)
                      refine bodyPost_ret (v := .tuple #[.agg #[.bool false, .slice none 0 0, .int .i64 0], .bool false]) (by exact results_cell_tmp rfl _ _ w.heap.size 99 #[.bool false, .slice none 0 0, .int .i64 0] _ (.bool false) rfl rfl (hNw.row _) Tryd.underlying99 rfl numRow) rfl ?_
                      rw [hR]
                      exact ⟨⟨false, none, 0, 0, 0, rfl, Nat.zero_le _, RdB.zero _ _⟩, setRow_below hbw (Nat.le_refl _) _⟩
            · have hR : R = false := by rw [hRe, Bool.eq_false_iff.2 hee, Bool.false_and]
              have hw2 : ((c.toNat : Int) != 101) = true ∧ ((c.toNat : Int) != 69) = true := by
                simp only [Bool.or_eq_true, beq_iff_eq, not_or] at hee
                refine ⟨bne_iff_ne.2 fun h => hee.1 ?_, bne_iff_ne.2 fun h => hee.2 ?_⟩
                · exact UInt8.toNat_inj.1 (by have : c.toNat = 101 := by omega
                                              rw [this]; rfl)
                · exact UInt8.toNat_inj.1 (by have : c.toNat = 69 := by omega
                                              rw [this]; rfl)
              obtain ⟨hw2, hw3⟩ := hw2
              rw [hc] at hw2 hw3
              clear hRe hee hc hs4 e4a
              go_wp2_with ((with_reducible refine wpList_store_three rfl 99 (.tmp 2) (.tmp 67) rfl rfl w.heap.size (.bool false) (.slice none 0 0) (.int .i64 0) (.bool false) (.slice none 0 0) (.int .i64 0) 99 numRow (one_bool _) (one_slice _ _ _) (one_int _ _) ?_ ?_ hNw ?_); exact rfl; exact rfl)
              refine bodyPost_ret (v := .tuple #[.agg #[.bool false, .slice none 0 0, .int .i64 0], .bool false]) (by exact results_cell_tmp rfl _ _ w.heap.size 99 #[.bool false, .slice none 0 0, .int .i64 0] _ (.bool false) rfl rfl (hNw.row _) Tryd.underlying99 rfl numRow) rfl ?_
              rw [hR]
              exact ⟨⟨false, none, 0, 0, 0, rfl, Nat.zero_le _, RdB.zero _ _⟩, setRow_below hbw (Nat.le_refl _) _⟩
end Go.Proofs.YtjfkiomegacpeaaDoor
