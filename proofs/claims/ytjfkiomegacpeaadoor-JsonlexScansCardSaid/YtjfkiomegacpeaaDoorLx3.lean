/-
  The reference's lexer: text by its contract.
-/
import Derived.Test.YtjfkiomegacpeaaDoorLx2
import Derived.Deep.RegionLaw
import Derived.Deep.LoopGhost
namespace Go.Proofs.YtjfkiomegacpeaaDoor
open Go.RowKit
def OwnRT (w : World) (base : Nat) (v : Value) (ts : List Jsn.T) : Prop := w.ownsRow base 61 4 v ts.length (ts.flatMap tokCells)
theorem rtRowE : ElemRow Tryd.prog 28 61 (.agg #[.int .i64 0, .int .i64 0, .int .i64 0, .string ⟨#[]⟩]) 4 40 := ⟨Tryd.underlying28, by kernel_rfl, rfl, by decide⟩
theorem OwnRT.snoc {w : World} {base : Nat} {v : Value} {ts : List Jsn.T} {t : Jsn.T} (h : w.ownsRow base 61 4 v (ts.length + 1) (ts.flatMap tokCells ++ tokCells t)) : OwnRT w base v (ts ++ [t]) := by
  unfold OwnRT
  rw [List.length_append, List.flatMap_append]
  simpa using h
theorem own_slc {w : World} {base n size : Nat} {e : TypeId} {v : Value} {xs : List Value} (h : w.ownsRow base e size v n xs) : ∃ ao n cap, v = .slice ao n cap := by
  rcases h.2 with ⟨h1, _⟩ | ⟨g, cap, cur, rfl, _⟩
  · exact ⟨_, _, _, h1⟩
  · exact ⟨_, _, _, rfl⟩
theorem own_set {w : World} {base n size : Nat} {e : TypeId} {v : Value} {xs : List Value} (h : w.ownsRow base e size v n xs) (a : Addr) (x : Value) (hne : a.block < base) : (w.setCell a x).ownsRow base e size v n xs := by
  refine ⟨h.1, ?_⟩
  rcases h.2 with hn | ⟨k, cap, cur, rfl, hb, hk, r⟩
  · exact Or.inl hn
  · exact Or.inr ⟨k, cap, cur, rfl, hb, by rw [heap_setCell_other w a k x (by omega)]; exact hk, r⟩
theorem step_push_row {P : Program} {w : World} {o : Oper} {a : Act} {K : Act → World → Prop} {Q : Exit → Act → World → Prop} {E : Prop} {ops : Array Oper} (hgd : o.guard = none) (s x : Operand) (t : TypeId) (ho : o.op = .call { callee := .builtin .append, args := #[s, x], argTypes := #[t, t] })
    (e : TypeId) (z : Value) (size bytes : Nat) (hE : ElemRow P t e z size bytes) (base : Nat) (v : Value) (n : Nat) (xs : List Value) (g c : Nat) (news : List Value)
    (hs : a.eval s = v) (hx : a.eval x = .slice (some ⟨g, 0, none⟩) 1 c) (hown : w.ownsRow base e size v n xs)
    (hl : news.length = size) (hnews : ∀ j u, news[j]? = some u → w.cell? ⟨g, j, none⟩ = some u) (h1 : ∀ u ∈ news, u.oneCell' = true) (_hn0 : news ≠ [])
    (hbytes : (n + 1) * bytes ≤ 140737488355328) (hn : n < 140737488355328) (hbase : base ≤ w.heap.size)
    (h : ∀ v' w', w'.ownsRow base e size v' (n + 1) (xs ++ news) → w.grownBy w' v.ownBlock → Below base w w' → K (a.put o.dst v') w') : if Region.wanted o (yielded ops a.tmps) = true then Oper.wp P o a w K Q else E := by
  obtain ⟨i, hi, hz, hsz, hby⟩ := info_parts hE.row
  refine step_append_lies w hgd s x t ho base e i _ size bytes hE.slice hi hz hsz hby hE.cells hE.pos v n xs hs hown ⟨g, 0, none⟩ 1 c news hx (by rw [hl, Nat.one_mul]) (fun j u hu => ?_)
    h1 (by omega) (by unfold maxLen; omega) hbytes hbase w.heap.size rfl
    (fun g' cap w' h1 h2 _ _ => h _ w' h1 h2 ((Below.refl base w).grown h2 hbase fun k hk => (World.ownsRow.lt hown k hk).1))
  have hadd : (⟨g, 0, none⟩ : Addr).add j = ⟨g, j, none⟩ := by unfold Addr.add; split <;> simp_all
  rw [hadd]
  exact hnews j u hu
def LxOk (w : World) (g : Nat) (s : ByteArray) (i : Nat) (T : List Jsn.T) (N : List Jsn.Note) (a : Int) : Prop := ∃ tv nv, LxB w g s i tv nv 0 a ∧ OwnRT w (g + 1) tv T ∧ OwnNote w (g + 1) nv N
def LxBad (w : World) (g : Nat) (s : ByteArray) (e a : Nat) : Prop := ∃ (k : Nat) (tv nv : Value), LxB w g s k tv nv (e : Int) (a : Int)
theorem quo_code : ∀ (f a : Nat) (out l : List UInt8) (e n : Nat), Jsn.quo f a out l = .bad e n → e ≠ 0
  | 0, a, out, l, e, n, h => by cases h; decide
  | f + 1, a, out, [], e, n, h => by cases h; decide
  | f + 1, a, out, c :: r, e, n, h => by
    unfold Jsn.quo at h
    split at h
    · cases h
    · split at h
      · cases h; decide
      · split at h
        · split at h
          · exact quo_code f _ _ _ e n h
          · rename_i x hx
            cases h
            unfold Jsn.escape at hx
            split at hx
            · split at hx
              · cases hx
              · cases hx; decide
            · split at hx
              · cases hx
              · split at hx
                · cases hx; decide
                · split at hx
                  · cases hx; decide
                  · cases hx
        · exact quo_code f _ _ _ e n h
theorem quo_end {f a : Nat} {out l : List UInt8} (h : l = []) : Jsn.quo f a out l = .bad 4 0 := by subst h; cases f <;> rfl
theorem quo_q {f a : Nat} {out r : List UInt8} : Jsn.quo (f + 1) a out (34 :: r) = .ok out (a + 1) := rfl
theorem quo_ctl {f a : Nat} {out r : List UInt8} {c : UInt8} (h1 : c ≠ 34) (h2 : c.toNat < 32) : Jsn.quo (f + 1) a out (c :: r) = .bad 4 a := by
  unfold Jsn.quo
  rw [beq_eq_false_iff_ne.2 h1]
  have : c < 32 := by rw [UInt8.lt_iff_toNat_lt]; exact h2
  simp [this]
theorem quo_b {f a : Nat} {out r : List UInt8} : Jsn.quo (f + 1) a out (92 :: r) = match Jsn.escape (92 :: r) with | .ok x n => Jsn.quo f (a + n) (out ++ Jsn.enc x) ((92 :: r).drop n) | .bad e => .bad e a := rfl
theorem quo_c {f a : Nat} {out r : List UInt8} {c : UInt8} (h1 : c ≠ 34) (h2 : ¬ c.toNat < 32) (h3 : c ≠ 92) : Jsn.quo (f + 1) a out (c :: r) = Jsn.quo f (a + 1) (out ++ [c]) r := by
  conv => lhs; unfold Jsn.quo
  rw [beq_eq_false_iff_ne.2 h1, beq_eq_false_iff_ne.2 h3]
  have : ¬ c < 32 := by rw [UInt8.lt_iff_toNat_lt]; exact h2
  simp [this]
def RetTx (g : Nat) (s : ByteArray) (i : Nat) (T : List Jsn.T) (N : List Jsn.Note) (a : Int) (w : World) (r : Jsn.Q) (e : Go.Ending) (w' : World) : Prop :=
  e = .returned (.tuple #[]) ∧ (match r with
    | .ok t n => LxOk w' g s (i + n) (T ++ [⟨2, i, i + n, t⟩]) N a
    | .bad c n => LxBad w' g s c (i + n)) ∧ Below g w w'
set_option maxRecDepth 100000 in
set_option maxHeartbeats 8000000 in
theorem ltext_any (g : Nat) (s : ByteArray) (i : Nat) (T : List Jsn.T) (N : List Jsn.Note) (a : Int) (w : World) (h : LxOk w g s i T N a) (hs : s.size ≤ 65536) (hi : i < s.size) (hT : T.length ≤ 65536) :
    Calls Tryd.prog 38 #[.pointer (some ⟨g, 0, none⟩)] w (RetTx g s i T N a w (Jsn.quo (s.data.toList.drop i).length 1 [] ((s.data.toList.drop i).drop 1))) := by
  obtain ⟨tv, nv, hB, hOT, hON⟩ := h
  obtain ⟨V, hV⟩ : ∃ V, V = Jsn.quo (s.data.toList.drop i).length 1 [] ((s.data.toList.drop i).drop 1) := ⟨_, rfl⟩
  rw [← hV]
  rw [List.length_drop, size_toList, List.drop_drop] at hV
  have HV := Lib.hid hV
  have hcode := fun e n (h : V = .bad e n) => quo_code _ _ _ _ e n (hV.symm.trans h)
  have HCD := Lib.hid hcode
  clear hV hcode
  obtain ⟨-, c1, -, -, -, -⟩ := hB.cells
  have f1 := hB.free 1
  have hB1 := hB.setI (i + 1) ((i : Int) + 1) (by omega)
  have hU1 := (Upd.refl g w).cell 1 (.int .i64 ((i : Int) + 1))
  have hgw := hB.lt
  go_enter Tryd.func38, Tryd.ntmps38
  go_wp2_with fail
  generalize w.setCell ⟨g, 1, none⟩ (.int .i64 ((i : Int) + 1)) = w1 at *
  clear c1 f1 hB
  go_loopg [3, 4] (s.size - i) (fun gg sv cv wr => ∃ ob : ByteArray, sv = .string ob ∧ Upd g w wr ∧
    ((∃ q f : Nat, gg + q = s.size + 1 ∧ i + 1 ≤ q ∧ q ≤ s.size ∧ s.size < q + f ∧ ob.size ≤ 4 * q ∧ LxB wr g s q tv nv 0 a ∧ Hid (V = Jsn.quo f (q - i) ob.data.toList (s.data.toList.drop q))) ∨
     (gg = 0 ∧ ∃ e n k : Nat, e ≠ 0 ∧ LxB wr g s k tv nv (e : Int) ((i + n : Nat) : Int) ∧ Hid (V = .bad e n))))
  case atStart =>
    refine ⟨_, rfl, hU1, .inl ⟨i + 1, s.size - i, by omega, Nat.le_refl _, by omega, by omega, Nat.zero_le _, hB1, Lib.hid ?_⟩⟩
    rw [show i + 1 - i = 1 by omega]
    exact HV.out
  case round =>
    clear HV hB1 hU1
    obtain ⟨ob, rfl, hU, hAB⟩ := hrel
    have hOT2 := own_upd hOT (Nat.lt_succ_self g) hU
    have hON2 := own_upd hON (Nat.lt_succ_self g) hU
    rcases hAB with ⟨q, f, hq0, hq1, hq2, hqf, hob, hL, HQ⟩ | ⟨hg0, e, n, k, he, hL, HQ⟩
    · obtain ⟨-, -, -, -, d4, -⟩ := hL.cells
      obtain ⟨d0, d1, -, -, -, -⟩ := hL.cells
      by_cases hqs : q < s.size
      · obtain ⟨f, rfl⟩ : ∃ f', f = f' + 1 := ⟨f - 1, by omega⟩
        have hQ := HQ.out
        rw [drop_at s q hqs] at hQ
        have b0 : decide ((q : Int) < (s.size : Int)) = true := decide_eq_true (by omega)
        have b1 : (q : Int) < (s.size : Int) := by omega
        have b2 : 0 ≤ (q : Int) := by omega
        have HQ2 := Lib.hid hQ
        clear hQ HQ
        go_wp2_with fail
        go_quiet (fail)
        have hL3 : LxB (wr.drewN nq) g s q tv nv 0 a := hL
        have hU3 : Upd g w (wr.drewN nq) := hU.trans (Upd.of (below_drewN _ _) (Nat.le_of_lt hL.lt))
        generalize wr.drewN nq = w3 at *
        clear hL hU d0 d1 d4 hOT2 hON2
        obtain ⟨d0, d1, -, -, -, -⟩ := hL3.cells
        go_wp2_with fail
        go_quiet (fail)
        have hL4 : LxB (w3.drewN nq) g s q tv nv 0 a := hL3
        have hU4 : Upd g w (w3.drewN nq) := hU3.trans (Upd.of (below_drewN _ _) (Nat.le_of_lt hL3.lt))
        generalize w3.drewN nq = w4 at *
        clear hL3 hU3 d0 d1
        obtain ⟨d0, d1, d2, -, -, -⟩ := hL4.cells
        have d6 := hL4.free 1
        have d7 := hL4.free 2
        have hOT4 := own_upd hOT (Nat.lt_succ_self g) hU4
        have hON4 := own_upd hON (Nat.lt_succ_self g) hU4
        have hL5 := hL4.setI (q + 1) ((q : Int) + 1) (by omega)
        have hU5 := hU4.cell 1 (.int .i64 ((q : Int) + 1))
        by_cases h34 : s[q] = 34
        · have n34 : ((s[q].toNat : Int) == 34) = true := by rw [h34]; rfl
          have hV : V = .ok ob.data.toList (q - i + 1) := by rw [HQ2.out, h34]; rfl
          clear HQ2 HCD
          go_upto_region 7 with fail
          generalize w4.setCell ⟨g, 1, none⟩ (.int .i64 ((q : Int) + 1)) = w5 at *
          clear d0 d1 d2 d6 d7 hL4 hOT4 hON4
          obtain ⟨-, g1, g2, -, -, -⟩ := hL5.cells
          have g7 := hL5.free 2
          obtain ⟨-, -, g2a, -, -, -⟩ := (hL5.keep (below_alloc (.cells #[.int .i64 2, .int .i64 (i : Int), .int .i64 ((q : Int) + 1), .string ob] 61))).cells
          have hOT5 := own_upd hOT (Nat.lt_succ_self g) hU5
          have hON5 := own_upd hON (Nat.lt_succ_self g) hU5
          go_region_law ((refine step_push_row rfl (.tmp 55) (.tmp 63) 28 rfl 61 _ 4 40 rtRowE (g + 1) tv T.length (T.flatMap tokCells) w5.heap.size 1 [.int .i64 2, .int .i64 (i : Int), .int .i64 ((q : Int) + 1), .string ob] ?_ ?_ ?_ ?_ ?_ ?_ ?_ ?_ ?_ ?_ ?_); exact rfl; exact rfl; (first | exact OwnR.keep hOT5 (((Below.refl _ w5).drew).alloc (Nat.le_refl _) _) | exact OwnR.keep hOT5 (((Below.refl _ w5).alloc (Nat.le_refl _) _).drew)); exact rfl; (first | exact new_cells w5.drew _ _ | exact new_cells w5 _ _); (intro u hu; simp only [List.mem_cons, List.not_mem_nil, or_false] at hu; rcases hu with rfl | rfl | rfl | rfl <;> rfl); exact (fun h => by cases h); omega; omega; (have h9 : g < w5.heap.size := hL5.lt; show _ ≤ (w5.drew.alloc _).heap.size; simp only [World.size_alloc]; show _ ≤ w5.heap.size + 1; omega); intro v' w6 hown6 hgr6 hb6; obtain ⟨ao6, n6, cap6, rfl⟩ := own_slc hown6; have hL6 : LxB w6 g s (q + 1) tv nv 0 a := (by first | exact Blk.below (Blk.alloc (w := w5.drew) hL5 _) hb6 (Nat.lt_succ_self g) | exact Blk.below (Blk.alloc hL5 _) hb6 (Nat.lt_succ_self g)); have hB6 : Below g w w6 := (by first | exact (hU5.1.drew.alloc (Nat.le_of_lt hL5.lt) _).trans (hb6.mono (Nat.le_succ g)) | exact (hU5.1.alloc (Nat.le_of_lt hL5.lt) _).drew.trans (hb6.mono (Nat.le_succ g))); have hON6 : OwnNote w6 (g + 1) nv N := (by first | exact ownsRow_grown (OwnR.keep hON5 (((Below.refl _ w5).drew).alloc (Nat.le_refl _) _)) (OwnR.keep hOT5 (((Below.refl _ w5).drew).alloc (Nat.le_refl _) _)) (by decide) hgr6 | exact ownsRow_grown (OwnR.keep hON5 (((Below.refl _ w5).alloc (Nat.le_refl _) _).drew)) (OwnR.keep hOT5 (((Below.refl _ w5).alloc (Nat.le_refl _) _).drew)) (by decide) hgr6); obtain ⟨-, -, e2, -, -, -⟩ := hL6.cells; have e7 := hL6.free 2; clear hgr6 hb6)
          all_goals
            go_wp2
            refine bodyPost_ret (results_none rfl _ _ _) rfl ?_
            subst hV
            refine ⟨rfl, ?_, hB6.setCell (Nat.le_refl _) _⟩
            show LxOk _ g s (i + (q - i + 1)) (T ++ [⟨2, i, i + (q - i + 1), ob.data.toList⟩]) N a
            rw [show i + (q - i + 1) = q + 1 by omega]
            exact ⟨_, nv, hL6.setT _, own_set (OwnRT.snoc hown6) _ _ (Nat.lt_succ_self g), own_set hON6 _ _ (Nat.lt_succ_self g)⟩
        · have n34 : ((s[q].toNat : Int) == 34) = false := byte_ne 34 h34
          by_cases h32 : s[q].toNat < 32
          · have hV : V = .bad 4 (q - i) := by rw [HQ2.out, quo_ctl h34 h32]
            have c32 : (s[q].toNat : Int) < 32 := by omega
            have HFL := Lib.hid (lfail_any g s q tv nv 0 a 4 (q : Int) w4 hL4)
            clear HQ2 HCD
            go_wp2_with (go_at_call 42; with_reducible refine HFL.out.mono ?_; rintro e w8 ⟨rfl, hL8, hU8⟩)
            refine bodyPost_ret (results_none rfl _ _ _) rfl ?_
            subst hV
            refine ⟨rfl, ⟨q, tv, nv, ?_⟩, (hU4.trans hU8).1⟩
            rw [show ((i + (q - i) : Nat) : Int) = (q : Int) by omega]
            exact hL8
          · have c32 : ¬ (s[q].toNat : Int) < 32 := by omega
            by_cases h92 : s[q] = 92
            · have n92 : ((s[q].toNat : Int) == 92) = true := by rw [h92]; rfl
              have hq2 := HQ2.out
              rw [h92, quo_b, ← h92, ← drop_at s q hqs] at hq2
              have hES := lescape_any g s q tv nv 0 a w4 hL4 hs hqs
              have hebd := Jsn.escape_bd (s.data.toList.drop q) (by rw [head_at s q hqs]; exact h92)
              cases hE : Jsn.escape (s.data.toList.drop q) with
              | ok x n =>
                rw [hE] at hES hq2
                obtain ⟨m1, m2, -, m3, -, -⟩ := hebd x n hE
                rw [List.length_drop, size_toList] at m2
                have HES : Hid (Calls Tryd.prog 53 #[.pointer (some ⟨g, 0, none⟩)] w4 fun e w' => e = .returned (.string ⟨(Jsn.enc x).toArray⟩) ∧ LxB w' g s (q + n) tv nv 0 a ∧ Upd g w4 w') := Lib.hid (hES.mono fun e w' h => ⟨h.1.1, h.1.2, h.2⟩)
                have HQ3 : Hid (V = Jsn.quo f (q + n - i) (ob ++ ⟨(Jsn.enc x).toArray⟩).data.toList (s.data.toList.drop (q + n))) := Lib.hid (by
                  have h5 : V = Jsn.quo f (q - i + n) (ob.data.toList ++ Jsn.enc x) ((s.data.toList.drop q).drop n) := hq2
                  rw [h5, List.drop_drop, app_lst, show q - i + n = q + n - i by omega])
                have hez : (⟨(Jsn.enc x).toArray⟩ : ByteArray).size ≤ n := m3
                generalize (⟨(Jsn.enc x).toArray⟩ : ByteArray) = EX at *
                clear HQ2 hq2 hES hebd hE m3
                go_wp2_with (go_at_call 53; with_reducible refine HES.out.mono ?_; rintro e w8 ⟨rfl, hL8, hU8⟩)
                go_roundg (s.size + 1 - (q + n))
                case measure => omega
                case rel => exact ⟨_, rfl, hU4.trans hU8, .inl ⟨q + n, f, by omega, by omega, by omega, by omega, by rw [ByteArray.size_append]; omega, hL8, HQ3⟩⟩
              | bad c =>
                rw [hE] at hES hq2
                have hV : V = .bad c (q - i) := hq2
                have hc := HCD.out c _ hV
                have HES : Hid (Calls Tryd.prog 53 #[.pointer (some ⟨g, 0, none⟩)] w4 fun e w' => (∃ k : Nat, e = .returned (.string ⟨#[]⟩) ∧ LxB w' g s k tv nv (c : Int) (q : Int)) ∧ Upd g w4 w') := Lib.hid (hES.mono fun e w' h => h)
                have HV2 := Lib.hid hV
                clear HQ2 hq2 hES hebd hE hV HCD
                go_wp2_with (go_at_call 53; with_reducible refine HES.out.mono ?_; rintro e w8 ⟨⟨k, rfl, hL8⟩, hU8⟩)
                go_roundg 0
                case measure => omega
                case rel => exact ⟨_, rfl, hU4.trans hU8, .inr ⟨rfl, c, q - i, k, hc, by rw [show ((i + (q - i) : Nat) : Int) = (q : Int) by omega]; exact hL8, HV2⟩⟩
            · have n92 : ((s[q].toNat : Int) == 92) = false := byte_ne 92 h92
              have HQ3 : Hid (V = Jsn.quo f (q - i + 1) (ob.data.toList ++ [s[q]]) (s.data.toList.drop (q + 1))) := Lib.hid (HQ2.out.trans (quo_c h34 h32 h92))
              have HQ4 : Hid (V = Jsn.quo f (q + 1 - i) (ob ++ ⟨[s[q]].toArray⟩).data.toList (s.data.toList.drop (q + 1))) := Lib.hid (by
                rw [HQ3.out, app_lst, show q - i + 1 = q + 1 - i by omega])
              have hL6 : LxB (w4.alloc (.cells #[.int .u8 (s[q].toNat : Int)] 5)) g s q tv nv 0 a := hL4.keep (below_alloc _)
              have hU6 : Upd g w (w4.alloc (.cells #[.int .u8 (s[q].toNat : Int)] 5)) := hU4.trans (Upd.of (below_alloc _) (Nat.le_of_lt hL4.lt))
              obtain ⟨-, e1, -, -, -, -⟩ := hL6.cells
              have e6 := hL6.free 1
              have HC := Lib.hid (new_bytes w4 _ [s[q]] 5 rfl)
              have hz1 : (⟨[s[q]].toArray⟩ : ByteArray).size ≤ 1 := Nat.le_refl _
              clear HQ2 HQ3 HCD h32 h34 h92
              go_wp2_with ((with_reducible refine wpList_cells_string rfl 39 9 (.tmp 83) rfl 5 Tryd.underlying39 (by kernel_rfl) (by kernel_rfl) w4.heap.size 1 1 [s[q]] rfl ?_ ?_ ?_); exact rfl; exact HC.out)
              go_roundg (s.size + 1 - (q + 1))
              case measure => omega
              case rel => exact ⟨_, rfl, hU6.cell 1 _, .inl ⟨q + 1, f, by omega, by omega, by omega, by omega, by rw [ByteArray.size_append]; omega, hL6.setI (q + 1) _ (by omega), HQ4⟩⟩
      · have hV : V = .bad 4 0 := by rw [HQ.out]; exact quo_end (List.drop_of_length_le (by rw [size_toList]; omega))
        subst hV
        have b0 : decide ((q : Int) < (s.size : Int)) = false := decide_eq_false (by omega)
        clear HQ HCD hq1 hq2 hqf hq0
        go_wp2_with fail
        go_quiet (fail)
        have hL3 : LxB (wr.drewN nq) g s q tv nv 0 a := hL
        have hU3 : Upd g w (wr.drewN nq) := hU.trans (Upd.of (below_drewN _ _) (Nat.le_of_lt hL.lt))
        generalize wr.drewN nq = w3 at *
        clear hL hU d0 d1 d4 hOT2 hON2
        obtain ⟨-, -, -, -, d4, -⟩ := hL3.cells
        have HFL := Lib.hid (lfail_any g s q tv nv 0 a 4 (i : Int) w3 hL3)
        go_wp2_with (go_at_call 42; with_reducible refine HFL.out.mono ?_; rintro e w8 ⟨rfl, hL8, hU8⟩)
        refine bodyPost_end (results_none rfl _ _ _) rfl ?_
        exact ⟨rfl, ⟨q, tv, nv, hL8⟩, (hU3.trans hU8).1⟩
    · have hV := HQ.out
      subst hV
      obtain ⟨-, -, -, -, d4, -⟩ := hL.cells
      have e0 : ((e : Int) == 0) = false := by rw [beq_eq_false_iff_ne]; omega
      clear HQ HCD
      go_wp2_with fail
      go_quiet (fail)
      have hL3 : LxB (wr.drewN nq) g s k tv nv (e : Int) ((i + n : Nat) : Int) := hL
      have hU3 : Upd g w (wr.drewN nq) := hU.trans (Upd.of (below_drewN _ _) (Nat.le_of_lt hL.lt))
      generalize wr.drewN nq = w3 at *
      clear hL hU d4 hOT2 hON2
      obtain ⟨-, -, -, -, d4, -⟩ := hL3.cells
      go_wp2_with fail
      refine bodyPost_end (results_none rfl _ _ _) rfl ?_
      exact ⟨rfl, ⟨k, tv, nv, hL3⟩, hU3.1⟩
end Go.Proofs.YtjfkiomegacpeaaDoor
