/-
  decimal.Parse; what a call finds in the world (Env); jsonlex.sequence.
-/
import Derived.Test.YtjfkiomegacpeaaDoorJsP
import Derived.Test.YtjfkiomegacpeaaDoorJsR
import Derived.Test.YtjfkiomegacpeaaDoorJsC
import Derived.Lib.AppendIntMem
namespace Go.Proofs.YtjfkiomegacpeaaDoor
open Go.RowKit
/-- What the calls ask of a world. -/
structure EnvJ (w : World) : Prop where
  u8 : Lib.Utf8Tabs (Tryd.lays197_ren.g 3) (Tryd.lays197_ren.g 4) w
  p10 : Lib.TabIs Tryd.prog w "internal/strconv.uint64pow10" .u64 Lib.pow10Tab
  mx : ∃ m, w.cell? ⟨2, 0, none⟩ = some (.int .i64 m)
theorem cell_lt {w : World} {b : Nat} {v : Value} (h : w.cell? ⟨b, 0, none⟩ = some v) : b < w.heap.size := by
  apply Classical.byContradiction
  intro hn
  have : w.heap[b]? = none := Array.getElem?_eq_none (by omega)
  simp [World.cell?, this] at h
theorem EnvJ.below {w w' : World} (h : EnvJ w) (hb : Below w.heap.size w w') : EnvJ w' := by
  refine ⟨Utf8Tabs_below h.u8 hb, Lib.tabBelow_of_tabIs h.p10 w' hb, ?_⟩
  obtain ⟨m, hm⟩ := h.mx
  exact ⟨m, by rw [hb.cell (p := ⟨2, 0, none⟩) (cell_lt hm)]; exact hm⟩
section
variable {P : Program} {w : World} {ops : Array Oper} {rest : List Oper} {o : Oper} {a : Act} {Q : Exit → Act → World → Prop}
theorem wpList_load_agg (hgd : o.guard = none) (ty : TypeId) (x : Operand) (ho : o.op = .load ty x) (d : TypeDesc) (hu : P.underlying ty = some d) (hd : (match d with | .struct _ | .array _ _ => true | _ => false) = true)
    (g : Nat) (cs : Array Value) (t : TypeId) (hi : (P.info? ty).map (·.size) = some cs.size) (hx : a.eval x = .pointer (some ⟨g, 0, none⟩)) (hg : Blk w g t cs)
    (h : wpList P ops Q rest (a.put o.dst (.agg cs)) w) : wpList P ops Q (o :: rest) a w := by
  refine wpList_plain hgd fun K hK => ?_
  unfold Oper.wp execOp
  simp only [ho, hx, Instr.loadAt, Instr.sureAddr, Sem.run_bind, Sem.run_pure, Result.andThen_ok, run_loadVar_row w g t ty cs (0, 0) d hg hu hd hi]
  exact hK _ _ h
end
def RetP (w : World) (b : Bool) (e : Go.Ending) (w' : World) : Prop :=
  (∃ (s : ByteArray) (c : Int), e = .returned (.tuple #[.string s, .int .i64 c]) ∧ (c == 3) = !b) ∧ Below w.heap.size w w'
set_option maxRecDepth 100000 in
set_option maxHeartbeats 4000000 in
theorem parse_any (s : ByteArray) (w : World) (hs : s.size ≤ 65536) (hE : EnvJ w) :
    Calls Tryd.prog 51 #[.string s] w (RetP w (Jsn.numeral s.data.toList)) := by
  have HN := Lib.hid (numeral_any s w hs)
  have HE := Lib.hid hE
  clear hE
  generalize Jsn.numeral s.data.toList = b at *
  go_enter Tryd.func51, Tryd.ntmps51
  go_wp2_with fail
  refine HN.out.mono ?_
  rintro e w1 ⟨⟨neg, ao, k, cap, x, rfl, hk, hrd⟩, hb1⟩
  clear HN
  cases b with
  | false =>
    go_wp2_with fail
    go_ret2
    exact ⟨⟨_, 3, rfl, rfl⟩, hb1.trans ((below_alloc _).mono hb1.size)⟩
  | true =>
    have HR := Lib.hid (fun w2 (hb : Below w1.heap.size w1 w2) => result_any neg ao k cap x w2 (by omega) (hrd.keep hb) (fun w' hb' => ((HE.out.below hb1).below (hb.trans (hb'.mono hb.size))).p10))
    clear hrd
    go_wp2_with fail
    refine (HR.out _ (below_alloc _)).mono ?_
    rintro e w3 ⟨⟨sb, c, rfl, hc⟩, hb3⟩
    have hb4 := (hb1.trans ((below_alloc (w := w1) (.cells #[.bool neg, .slice ao k cap, .int .i64 x] 99)).mono hb1.size))
    have hb5 := hb4.trans (hb3.mono hb4.size)
    clear HR
    go_wp2_with fail
    go_ret2
    exact ⟨⟨sb, c, rfl, beq_eq_false_iff_ne.2 hc⟩, hb5⟩
/-! ### sequence -/
def tokV (k n : Int) (s : ByteArray) : Array Value := #[.int .i64 k, .int .i64 0, .int .i64 n, .string s]
def RetTk (w : World) : Jsn.Tok → Go.Ending → World → Prop
  | .ok k n t, e, w' => e = .returned (.tuple #[.agg (tokV k n ⟨t.toArray⟩), .int .i64 0]) ∧ Below w.heap.size w w'
  | .bad c n, e, w' => (∃ (k : Int) (s : ByteArray), e = .returned (.tuple #[.agg (tokV k n s), .int .i64 (c : Int)])) ∧ c ≠ 0 ∧ Below w.heap.size w w'
theorem RetTk.mk_ok {w w' : World} {o : Jsn.Tok} {k n : Nat} {K N : Int} {t : List UInt8} {s : ByteArray} (ho : o = .ok k n t) (hk : K = k) (hn : N = n) (hs : s.data.toList = t) (hb : Below w.heap.size w w') : RetTk w o (.returned (.tuple #[.agg (tokV K N s), .int .i64 0])) w' := by
  subst ho hk hn hs
  exact ⟨rfl, hb⟩
theorem RetTk.mk_bad {w w' : World} {o : Jsn.Tok} {c n : Nat} {k N C : Int} {s : ByteArray} (ho : o = .bad c n) (hn : N = n) (hc : C = c) (h0 : c ≠ 0) (hb : Below w.heap.size w w') : RetTk w o (.returned (.tuple #[.agg (tokV k N s), .int .i64 C])) w' := by
  subst ho hn hc
  exact ⟨⟨_, _, rfl⟩, h0, hb⟩
theorem tokRow : (Tryd.prog.info? 34).map (·.size) = some 4 := by kernel_rfl
section
variable {w : World} {ops : Array Oper} {rest : List Oper} {o : Oper} {a : Act} {Q : Exit → Act → World → Prop}
theorem wpList_load_tok (hgd : o.guard = none) (x : Operand) (ho : o.op = .load 34 x) (g : Nat) (v0 v1 v2 v3 : Value) (hx : a.eval x = .pointer (some ⟨g, 0, none⟩)) (hg : Blk w g 34 #[v0, v1, v2, v3])
    (h : wpList Tryd.prog ops Q rest (a.put o.dst (.agg #[v0, v1, v2, v3])) w) : wpList Tryd.prog ops Q (o :: rest) a w :=
  wpList_load_agg hgd 34 x ho _ Tryd.underlying34 rfl g #[v0, v1, v2, v3] 34 tokRow hx hg h
theorem wpList_store_tok (hgd : o.guard = none) (x y : Operand) (ho : o.op = .store 34 x y) (hd : o.dst = none)
    (g : Nat) (z0 z1 z2 z3 : Value) (k f n : Int) (s : ByteArray) (hx : a.eval x = .pointer (some ⟨g, 0, none⟩)) (hy : a.eval y = .agg #[.int .i64 k, .int .i64 f, .int .i64 n, .string s]) (hg : Blk w g 34 #[z0, z1, z2, z3])
    (h : wpList Tryd.prog ops Q rest a (w.setRow g #[.int .i64 k, .int .i64 f, .int .i64 n, .string s])) : wpList Tryd.prog ops Q (o :: rest) a w :=
  wpList_store_four hgd 34 x y ho hd g z0 z1 z2 z3 _ _ _ _ 34 tokRow (one_int _ _) (one_int _ _) (one_int _ _) (one_str _) hx hy hg h
end
theorem seqc_split (c : UInt8) : Jsn.letter c = true ∧ Jsn.seqc c = true ∨ Jsn.letter c = false ∧ Jsn.seqc c = Jsn.numeric c := by
  unfold Jsn.seqc
  cases Jsn.letter c <;> simp
set_option maxRecDepth 100000 in
set_option maxHeartbeats 4000000 in
theorem sequence_any (s : ByteArray) (w : World) (h1 : 1 ≤ s.size) (hs : s.size ≤ 65536) (hE : EnvJ w) :
    Calls Tryd.prog 34 #[.string s] w (RetTk w (Jsn.sequence s.data.toList)) := by
  obtain ⟨C, hC⟩ : ∃ C, C = Jsn.sequence s.data.toList := ⟨_, rfl⟩
  rw [← hC]
  obtain ⟨n, hn⟩ : ∃ n, n = Jsn.run Jsn.seqc s.data.toList := ⟨_, rfl⟩
  have HC := Lib.hid hC
  have HN : Hid (n = Jsn.run Jsn.seqc s.data.toList) := Lib.hid hn
  have HN0 : Hid (n = 0 + Jsn.run Jsn.seqc (s.data.toList.drop 0)) := Lib.hid (by rw [hn]; simp)
  have HE := Lib.hid hE
  have hns : n ≤ s.size := by rw [hn, ← size_toList]; exact Jsn.run_le _ _
  clear hn hC hE
  have HLt := Lib.hid letter_any
  have HNu := Lib.hid numeric_any
  go_enter Tryd.func34, Tryd.ntmps34
  go_wp2_with fail
  have hB0 : Blk (w.alloc (.cells #[.int .i64 0, .int .i64 0, .int .i64 0, .string ⟨#[]⟩] 34)) w.heap.size 34 #[.int .i64 0, .int .i64 0, .int .i64 0, .string ⟨#[]⟩] := Blk.new _ _ _
  have hb0 := below_alloc (w := w) (.cells #[.int .i64 0, .int .i64 0, .int .i64 0, .string ⟨#[]⟩] 34)
  generalize w.alloc (.cells #[.int .i64 0, .int .i64 0, .int .i64 0, .string ⟨#[]⟩] 34) = w1 at *
  go_loopg [4] s.size (fun gg i wr => ∃ j : Nat, j + gg = s.size ∧ i = .int .i64 j ∧ Hid (n = j + Jsn.run Jsn.seqc (s.data.toList.drop j)) ∧ wr = w1)
  case atStart => exact ⟨0, by omega, rfl, HN0, rfl⟩
  case round =>
    clear HN0
    obtain ⟨j, hg, rfl, HM, rfl⟩ := hrel
    obtain ⟨bb, hbb⟩ : ∃ bb : Bool, bb = if j < s.size then Jsn.seqc ((s.data.toList.drop j).headD 0) else false := ⟨_, rfl⟩
    have HT : Hid (bb = true → j < s.size ∧ n = (j + 1) + Jsn.run Jsn.seqc (s.data.toList.drop (j + 1))) := Lib.hid (fun h => by
      rw [hbb] at h
      by_cases hj : j < s.size
      · rw [if_pos hj, head_at s j hj] at h
        have hM := HM.out
        rw [drop_at s j hj, Jsn.run_cons, if_pos h] at hM
        exact ⟨hj, by omega⟩
      · rw [if_neg hj] at h
        exact absurd h (by simp))
    have HF : Hid (bb = false → n = j) := Lib.hid (fun h => by
      rw [hbb] at h
      have hM := HM.out
      by_cases hj : j < s.size
      · rw [if_pos hj, head_at s j hj] at h
        rw [drop_at s j hj, Jsn.run_cons, if_neg (by rw [h]; simp)] at hM
        omega
      · rw [List.drop_of_length_le (by rw [size_toList]; omega), Jsn.run_nil] at hM
        omega)
    clear HM
    go_upto_region 2 with fail
    go_cut [4, 23] from 8 to 23 (fun i b wx => i = .int .i64 j ∧ b = .bool bb ∧ wx = wr)
    case first =>
      clear HT HF HLt HNu HE
      by_cases hj : j < s.size
      · have hbq : bb = Jsn.seqc s[j] := by
          rw [hbb, if_pos hj, head_at s j hj]
        clear hbb
        have HL1 := fun w => letter_any s[j] w
        have HN1 := fun w => numeric_any s[j] w
        rcases seqc_split s[j] with ⟨hl, hq⟩ | ⟨hl, hq⟩
        · rw [hl] at HL1
          rw [hq] at hbq
          subst hbq
          have HL1 := Lib.hid HL1
          clear hl hq HN1
          go_wp2_with fail
          refine (HL1.out _).mono ?_
          rintro e w2 ⟨rfl, rfl⟩
          clear HL1
          go_wp2_with fail
          go_meet
          case rel => exact ⟨rfl, rfl, rfl⟩
        · rw [hl] at HL1
          rw [← hq, ← hbq] at HN1
          have HL1 := Lib.hid HL1
          have HN1 := Lib.hid HN1
          clear hl hq hbq
          go_wp2_with fail
          refine (HL1.out _).mono ?_
          rintro e w2 ⟨rfl, rfl⟩
          go_wp2_with fail
          refine (HN1.out _).mono ?_
          rintro e w2 ⟨rfl, rfl⟩
          clear HL1 HN1
          go_wp2_with fail
          go_meet
          case rel => exact ⟨rfl, rfl, rfl⟩
      · have hbq : bb = false := by rw [hbb, if_neg hj]
        subst hbq
        clear hbb
        go_wp2_with fail
        go_meet
        case rel => exact ⟨rfl, rfl, rfl⟩
    case rest =>
      obtain ⟨rfl, rfl, rfl⟩ := hcut
      clear hbb
      cases bb with
      | true =>
        obtain ⟨hj, hM⟩ := HT.out rfl
        have HM2 := Lib.hid hM
        clear HT HF hM
        go_wp2_with fail
        go_roundg (s.size - (j + 1))
        case measure => omega
        case rel => exact ⟨j + 1, by omega, by go_num, HM2, rfl⟩
      | false =>
        have hnj := HF.out rfl
        clear HT HF
        subst hnj
        clear hg
        obtain ⟨t, ht⟩ : ∃ t, t = s.extract 0 n := ⟨_, rfl⟩
        have htl : t.data.toList = s.data.toList.take n := by rw [ht]; exact ext0 s n
        have htz : t.size ≤ 65536 := by rw [← size_toList, htl, List.length_take, size_toList]; omega
        have hhd : s.data.toList.headD 0 = s[0] := by
          have := head_at s 0 (by omega)
          rwa [List.drop_zero] at this
        have hC2 : C = if Jsn.numeric s[0] then (if Jsn.numeral t.data.toList then .ok 3 n t.data.toList else .bad 12 0) else if Jsn.word t.data.toList then .ok 4 n t.data.toList else .bad 4 0 := by
          rw [HC.out]; unfold Jsn.sequence; rw [← HN.out, ← htl, hhd]
        have HN1 := fun w => numeric_any s[0] w
        obtain ⟨nm, hnm⟩ : ∃ b, b = Jsn.numeric s[0] := ⟨_, rfl⟩
        rw [← hnm] at HN1 hC2
        have HN1 := Lib.hid HN1
        have HT := Lib.hid ht
        have HC2 := Lib.hid hC2
        clear hnm hC2 hhd ht htl HC HN HNu HLt
        go_wp2_with fail
        rw [← HT.out]
        refine (HN1.out _).mono ?_
        rintro e w2 ⟨rfl, rfl⟩
        clear HN1 HT
        have hB1 : Blk (wc.alloc (.cells #[.int .i64 4, .int .i64 0, .int .i64 n, .string t] 34)) wc.heap.size 34 #[.int .i64 4, .int .i64 0, .int .i64 n, .string t] := Blk.new _ _ _
        have hB2 := hB0.below (below_alloc (w := wc) (.cells #[.int .i64 4, .int .i64 0, .int .i64 n, .string t] 34)) hB0.lt
        have hb2 := hb0.trans ((below_alloc (w := wc) (.cells #[.int .i64 4, .int .i64 0, .int .i64 n, .string t] 34)).mono hb0.size)
        have hlt := hB0.lt
        clear hB0 hb0
        generalize wc.alloc (.cells #[.int .i64 4, .int .i64 0, .int .i64 n, .string t] 34) = w2 at *
        have hbs : w.heap.size ≤ wc.heap.size := Nat.le_of_lt hlt
        have hne : w.heap.size ≠ wc.heap.size := Nat.ne_of_lt hlt
        generalize wc.heap.size = b1 at *
        cases nm with
        | true =>
          have hB3 : Blk (w2.setCell ⟨b1, 0, none⟩ (.int .i64 3)) b1 34 #[.int .i64 3, .int .i64 0, .int .i64 n, .string t] := hB1.put 0 (.int .i64 3)
          have hB4 := Blk.set_other hB2 (a := ⟨b1, 0, none⟩) hne (.int .i64 3)
          have hb3 := hb2.setCell (p := ⟨b1, 0, none⟩) hbs (.int .i64 3)
          have c0 : w2.cell? ⟨b1, 0, none⟩ = some (.int .i64 4) := hB1.at_ 0
          have f0 : w2.frozen? ⟨b1, 0, none⟩ = false := hB1.free 0
          have y3 : (w2.setCell ⟨b1, 0, none⟩ (.int .i64 3)).cell? ⟨b1, 3, none⟩ = some (.string t) := hB3.at_ 3
          have HP := Lib.hid (parse_any t _ htz (HE.out.below hb3))
          go_wp2_with fail
          refine HP.out.mono ?_
          rintro e w3 ⟨⟨ps, pc, rfl, hpc⟩, hb4⟩
          have hB5 := hB3.below hb4 hB3.lt
          have hB6 := hB4.below hb4 hB4.lt
          have hb5 := hb3.trans (hb4.mono hb3.size)
          clear y3 c0 f0 HP hb4 hb3 hB3 hB4 hb2 hB2 hB1 HE
          cases hnu : Jsn.numeral t.data.toList with
          | true =>
            rw [hnu] at hpc
            have hpc : (pc == 3) = false := hpc
            have HC3 : C = .ok 3 n t.data.toList := HC2.out.trans (by rw [hnu]; rfl)
            have HC3 := Lib.hid HC3
            clear HC2 hnu
            go_wp2_with (first
              | ((with_reducible refine wpList_load_tok rfl (.tmp 5) rfl b1 (.int .i64 3) (.int .i64 0) (.int .i64 n) (.string t) ?_ hB5 ?_); exact rfl)
              | ((with_reducible refine wpList_store_tok rfl (.tmp 2) (.tmp 58) rfl rfl w.heap.size (.int .i64 0) (.int .i64 0) (.int .i64 0) (.string ⟨#[]⟩) 3 0 n t ?_ ?_ hB6 ?_); exact rfl; exact rfl))
            refine bodyPost_ret (v := .tuple #[.agg (tokV 3 n t), .int .i64 0]) (by exact results_cell_tmp rfl _ _ w.heap.size 34 #[.int .i64 3, .int .i64 0, .int .i64 n, .string t] _ (.int .i64 0) rfl rfl (hB6.row _) Tryd.underlying34 rfl tokRow) rfl ?_
            exact RetTk.mk_ok HC3.out rfl rfl rfl (setRow_below hb5 (Nat.le_refl _) _)
          | false =>
            rw [hnu] at hpc
            have hpc : (pc == 3) = true := hpc
            have HC3 : C = .bad 12 0 := HC2.out.trans (by rw [hnu]; rfl)
            have HC3 := Lib.hid HC3
            clear HC2 hnu
            go_wp2_with ((with_reducible refine wpList_store_tok rfl (.tmp 2) (.tmp 43) rfl rfl w.heap.size (.int .i64 0) (.int .i64 0) (.int .i64 0) (.string ⟨#[]⟩) 0 0 0 ⟨#[]⟩ ?_ ?_ hB6 ?_); exact rfl; exact rfl)
            refine bodyPost_ret (v := .tuple #[.agg (tokV 0 0 ⟨#[]⟩), .int .i64 12]) (by exact results_cell_tmp rfl _ _ w.heap.size 34 #[.int .i64 0, .int .i64 0, .int .i64 0, .string ⟨#[]⟩] _ (.int .i64 12) rfl rfl (hB6.row _) Tryd.underlying34 rfl tokRow) rfl ?_
            exact RetTk.mk_bad HC3.out rfl rfl (by decide) (setRow_below hb5 (Nat.le_refl _) _)
        | false =>
          have y3 : w2.cell? ⟨b1, 3, none⟩ = some (.string t) := hB1.at_ 3
          have e1 : (⟨#[116, 114, 117, 101]⟩ : ByteArray).data.toList = [116, 114, 117, 101] := rfl
          have e2 : (⟨#[102, 97, 108, 115, 101]⟩ : ByteArray).data.toList = [102, 97, 108, 115, 101] := rfl
          have e3 : (⟨#[110, 117, 108, 108]⟩ : ByteArray).data.toList = [110, 117, 108, 108] := rfl
          clear HE
          go_upto_region 10 with fail
          go_cut [56] from 44 to 56 (fun b wx => b = .bool (!Jsn.word t.data.toList) ∧ wx = w2)
          case first =>
            clear HC2
            go_wp2_with fail
            all_goals
              go_meet
              case rel =>
                refine ⟨?_, rfl⟩
                unfold Jsn.word
                rw [← toList_eq]
                first
                  | (rw [(by assumption : t.toList = [116, 114, 117, 101])]; rfl)
                  | (rw [(by assumption : t.toList = [102, 97, 108, 115, 101])]; rfl)
                  | (rw [beq_eq_false_iff_ne.2 (by assumption : ¬t.toList = [116, 114, 117, 101]), beq_eq_false_iff_ne.2 (by assumption : ¬t.toList = [102, 97, 108, 115, 101])]; rfl)
          case rest =>
            obtain ⟨rfl, rfl⟩ := hcut
            cases hwd : Jsn.word t.data.toList with
            | true =>
              have HC3 : C = .ok 4 n t.data.toList := HC2.out.trans (by rw [hwd]; rfl)
              have HC3 := Lib.hid HC3
              clear HC2 hwd y3 e1 e2 e3
              go_wp2_with (first
                | ((with_reducible refine wpList_load_tok rfl (.tmp 5) rfl b1 (.int .i64 4) (.int .i64 0) (.int .i64 n) (.string t) ?_ hB1 ?_); exact rfl)
                | ((with_reducible refine wpList_store_tok rfl (.tmp 2) (.tmp 58) rfl rfl w.heap.size (.int .i64 0) (.int .i64 0) (.int .i64 0) (.string ⟨#[]⟩) 4 0 n t ?_ ?_ hB2 ?_); exact rfl; exact rfl))
              refine bodyPost_ret (v := .tuple #[.agg (tokV 4 n t), .int .i64 0]) (by exact results_cell_tmp rfl _ _ w.heap.size 34 #[.int .i64 4, .int .i64 0, .int .i64 n, .string t] _ (.int .i64 0) rfl rfl (hB2.row _) Tryd.underlying34 rfl tokRow) rfl ?_
              exact RetTk.mk_ok HC3.out rfl rfl rfl (setRow_below hb2 (Nat.le_refl _) _)
            | false =>
              have HC3 : C = .bad 4 0 := HC2.out.trans (by rw [hwd]; rfl)
              have HC3 := Lib.hid HC3
              clear HC2 hwd y3 e1 e2 e3
              go_wp2_with ((with_reducible refine wpList_store_tok rfl (.tmp 2) (.tmp 57) rfl rfl w.heap.size (.int .i64 0) (.int .i64 0) (.int .i64 0) (.string ⟨#[]⟩) 0 0 0 ⟨#[]⟩ ?_ ?_ hB2 ?_); exact rfl; exact rfl)
              refine bodyPost_ret (v := .tuple #[.agg (tokV 0 0 ⟨#[]⟩), .int .i64 4]) (by exact results_cell_tmp rfl _ _ w.heap.size 34 #[.int .i64 0, .int .i64 0, .int .i64 0, .string ⟨#[]⟩] _ (.int .i64 4) rfl rfl (hB2.row _) Tryd.underlying34 rfl tokRow) rfl ?_
              exact RetTk.mk_bad HC3.out rfl rfl (by decide) (setRow_below hb2 (Nat.le_refl _) _)
end Go.Proofs.YtjfkiomegacpeaaDoor
