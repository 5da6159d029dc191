/-
  The reference's lexer: next by its contract. Laid by wip/gen/lxnext.py.
-/
import Derived.Test.YtjfkiomegacpeaaDoorLx5
import Derived.Deep.RegionHeldLaw
import Derived.Deep.DrawnRows
namespace Go.Proofs.YtjfkiomegacpeaaDoor
open Go.RowKit
attribute [local go_sem ↓] Go.wp_at_zero Go.wp_at_succ
theorem white_cases (c : UInt8) : ((c.toNat : Int) = 9 ∧ Jsn.white c = true) ∨ ((c.toNat : Int) = 10 ∧ Jsn.white c = true) ∨ ((c.toNat : Int) = 13 ∧ Jsn.white c = true) ∨ ((c.toNat : Int) = 32 ∧ Jsn.white c = true) ∨ (((c.toNat : Int) == 9) = false ∧ ((c.toNat : Int) == 10) = false ∧ ((c.toNat : Int) == 13) = false ∧ ((c.toNat : Int) == 32) = false ∧ Jsn.white c = false) := by
  have h : ∀ n, n < 256 → ((n = 9 ∧ Jsn.white (UInt8.ofNat n) = true) ∨ (n = 10 ∧ Jsn.white (UInt8.ofNat n) = true) ∨ (n = 13 ∧ Jsn.white (UInt8.ofNat n) = true) ∨ (n = 32 ∧ Jsn.white (UInt8.ofNat n) = true) ∨ (n ≠ 9 ∧ n ≠ 10 ∧ n ≠ 13 ∧ n ≠ 32 ∧ Jsn.white (UInt8.ofNat n) = false)) := by decide +kernel
  have h2 := h c.toNat (UInt8.toNat_lt c)
  rw [UInt8.ofNat_toNat] at h2
  rcases h2 with ⟨a, b⟩ | ⟨a, b⟩ | ⟨a, b⟩ | ⟨a, b⟩ | ⟨a0, a1, a2, a3, b⟩
  · exact .inl ⟨by omega, b⟩
  · exact .inr (.inl ⟨by omega, b⟩)
  · exact .inr (.inr (.inl ⟨by omega, b⟩))
  · exact .inr (.inr (.inr (.inl ⟨by omega, b⟩)))
  · exact .inr (.inr (.inr (.inr ⟨by rw [beq_eq_false_iff_ne]; omega, by rw [beq_eq_false_iff_ne]; omega, by rw [beq_eq_false_iff_ne]; omega, by rw [beq_eq_false_iff_ne]; omega, b⟩)))
theorem punct_cases (c : UInt8) : ((c.toNat : Int) = 123 ∧ Jsn.punct c = true) ∨ ((c.toNat : Int) = 125 ∧ Jsn.punct c = true) ∨ ((c.toNat : Int) = 91 ∧ Jsn.punct c = true) ∨ ((c.toNat : Int) = 93 ∧ Jsn.punct c = true) ∨ ((c.toNat : Int) = 58 ∧ Jsn.punct c = true) ∨ ((c.toNat : Int) = 44 ∧ Jsn.punct c = true) ∨ (((c.toNat : Int) == 123) = false ∧ ((c.toNat : Int) == 125) = false ∧ ((c.toNat : Int) == 91) = false ∧ ((c.toNat : Int) == 93) = false ∧ ((c.toNat : Int) == 58) = false ∧ ((c.toNat : Int) == 44) = false ∧ Jsn.punct c = false) := by
  have h : ∀ n, n < 256 → ((n = 123 ∧ Jsn.punct (UInt8.ofNat n) = true) ∨ (n = 125 ∧ Jsn.punct (UInt8.ofNat n) = true) ∨ (n = 91 ∧ Jsn.punct (UInt8.ofNat n) = true) ∨ (n = 93 ∧ Jsn.punct (UInt8.ofNat n) = true) ∨ (n = 58 ∧ Jsn.punct (UInt8.ofNat n) = true) ∨ (n = 44 ∧ Jsn.punct (UInt8.ofNat n) = true) ∨ (n ≠ 123 ∧ n ≠ 125 ∧ n ≠ 91 ∧ n ≠ 93 ∧ n ≠ 58 ∧ n ≠ 44 ∧ Jsn.punct (UInt8.ofNat n) = false)) := by decide +kernel
  have h2 := h c.toNat (UInt8.toNat_lt c)
  rw [UInt8.ofNat_toNat] at h2
  rcases h2 with ⟨a, b⟩ | ⟨a, b⟩ | ⟨a, b⟩ | ⟨a, b⟩ | ⟨a, b⟩ | ⟨a, b⟩ | ⟨a0, a1, a2, a3, a4, a5, b⟩
  · exact .inl ⟨by omega, b⟩
  · exact .inr (.inl ⟨by omega, b⟩)
  · exact .inr (.inr (.inl ⟨by omega, b⟩))
  · exact .inr (.inr (.inr (.inl ⟨by omega, b⟩)))
  · exact .inr (.inr (.inr (.inr (.inl ⟨by omega, b⟩))))
  · exact .inr (.inr (.inr (.inr (.inr (.inl ⟨by omega, b⟩)))))
  · exact .inr (.inr (.inr (.inr (.inr (.inr ⟨by rw [beq_eq_false_iff_ne]; omega, by rw [beq_eq_false_iff_ne]; omega, by rw [beq_eq_false_iff_ne]; omega, by rw [beq_eq_false_iff_ne]; omega, by rw [beq_eq_false_iff_ne]; omega, by rw [beq_eq_false_iff_ne]; omega, b⟩)))))

theorem step_cells_str {P : Program} {w : World} {ops : Array Oper} {o : Oper} {a : Act} {K : Act → World → Prop} {Q : Exit → Act → World → Prop} {E : Prop} (hgd : o.guard = none) (src dst : TypeId) (x : Operand) (ho : o.op = .convert src dst x) (e : TypeId) (hs : P.underlying src = some (.slice e)) (he : P.underlying e = some (.int .u8)) (hd : P.underlying dst = some .string)
    (g n cap : Nat) (l : List UInt8) (hn : n = l.length) (hx : a.eval x = .slice (some ⟨g, 0, none⟩) n cap) (hc : ∀ j, j < n → w.cell? ⟨g, j, none⟩ = some (.int .u8 (byteAt l j)))
    (h : K (a.put o.dst (.string ⟨l.toArray⟩)) w) : if Region.wanted o (yielded ops a.tmps) = true then Oper.wp P o a w K Q else E :=
  step_cells_string (by simp [Region.wanted, hgd]) src dst x ho e hs he hd g n cap l hn hx hc h
theorem dr2 (w : World) (o1 o2 : Obj) : Below w.heap.size w ((w.drew.alloc o1).alloc o2) := by
  have h1 := ((Below.refl w.heap.size w).drew).alloc (Nat.le_refl _) o1
  exact h1.alloc h1.size o2
theorem dr3 (w : World) (o1 o2 : Obj) : Below w.heap.size w ((w.alloc o1).alloc o2).drew := by
  have h1 := (Below.refl w.heap.size w).alloc (Nat.le_refl _) o1
  exact (h1.alloc h1.size o2).drew
theorem comment_h2 {l : List UInt8} (h1 : h2 47 47 l = false) (h3 : h2 47 42 l = false) : Jsn.comment l = some 0 := by
  unfold Jsn.comment
  split
  · cases h1
  · cases h3
  · rfl
theorem comment_pos {l : List UInt8} (h : h2 47 47 l = true ∨ h2 47 42 l = true) : Jsn.comment l = none ∨ ∃ m, Jsn.comment l = some (m + 1) := by
  rcases h with h | h
  · obtain ⟨r, rfl⟩ := h2_of h
    exact .inr ⟨1 + Jsn.run (fun c => c != 10) r, by show some (2 + _) = _; congr 1; omega⟩
  · obtain ⟨r, rfl⟩ := h2_of h
    show (Jsn.close r).map (· + 4) = none ∨ ∃ m, (Jsn.close r).map (· + 4) = some (m + 1)
    cases Jsn.close r with
    | none => exact .inl rfl
    | some k => exact .inr ⟨k + 3, rfl⟩
def RetNx (g : Nat) (s : ByteArray) (i : Nat) (T : List Jsn.T) (N : List Jsn.Note) (a : Int) (w : World) (r : Jsn.Step) (e : Go.Ending) (w' : World) : Prop :=
  e = .returned (.tuple #[]) ∧ (match r with
    | .skip => LxOk w' g s (i + 1) T N a
    | .note m => LxOk w' g s (i + m) T (N ++ [⟨i, i + m, (s.data.toList.drop i).take m⟩]) a
    | .tok k m t => LxOk w' g s (i + m) (T ++ [⟨k, i, i + m, t⟩]) N a
    | .bad c m => LxBad w' g s c (i + m)) ∧ Below g w w'
theorem RetNx.com {g : Nat} {s : ByteArray} {i : Nat} {T : List Jsn.T} {N : List Jsn.Note} {a : Int} {w0 w w' : World} {e : Go.Ending} {V : Jsn.Step} (hb : Below g w0 w) (h : RetCm g s i T N a w (Jsn.comment (s.data.toList.drop i)) e w') (hp : Jsn.comment (s.data.toList.drop i) = none ∨ ∃ m, Jsn.comment (s.data.toList.drop i) = some (m + 1))
    (hV : V = match Jsn.comment (s.data.toList.drop i) with | none => .bad 4 0 | some 0 => Jsn.tstep (Jsn.token (s.data.toList.drop i)) | some (m + 1) => .note (m + 1)) : RetNx g s i T N a w0 V e w' := by
  subst hV
  obtain ⟨h1, h2, h3⟩ := h
  refine ⟨h1, ?_, hb.trans h3⟩
  rcases hp with hp | ⟨m, hp⟩
  · rw [hp] at h2 ⊢
    exact h2
  · rw [hp] at h2 ⊢
    exact h2
theorem RetNx.lx {g : Nat} {s : ByteArray} {i : Nat} {T : List Jsn.T} {N : List Jsn.Note} {a : Int} {w0 w w' : World} {e : Go.Ending} {t : Jsn.Tok} (hb : Below g w0 w) (h : RetLx g s i T N a w t e w') : RetNx g s i T N a w0 (Jsn.tstep t) e w' := by
  obtain ⟨h1, h2, h3⟩ := h
  refine ⟨h1, ?_, hb.trans h3⟩
  cases t with
  | ok k n t => exact h2
  | bad c n => exact h2
theorem RetNx.tx {g : Nat} {s : ByteArray} {i : Nat} {T : List Jsn.T} {N : List Jsn.Note} {a : Int} {w0 w w' : World} {e : Go.Ending} {t : Jsn.Q} (hb : Below g w0 w) (h : RetTx g s i T N a w t e w') : RetNx g s i T N a w0 (Jsn.tstep (Jsn.qtok t)) e w' := by
  obtain ⟨h1, h2, h3⟩ := h
  refine ⟨h1, ?_, hb.trans h3⟩
  cases t with
  | ok t n => exact h2
  | bad c n => exact h2
set_option maxRecDepth 100000 in
set_option maxHeartbeats 0 in
theorem lnext_any (g : Nat) (s : ByteArray) (i : Nat) (T : List Jsn.T) (N : List Jsn.Note) (a : Int) (w : World) (h : LxOk w g s i T N a) (hs : s.size ≤ 65536) (hi : i < s.size) (hT : T.length ≤ 65536) (hN : N.length ≤ 65536) :
    Calls Tryd.prog 23 #[.pointer (some ⟨g, 0, none⟩)] w (RetNx g s i T N a w (Jsn.step (s.data.toList.drop i))) := by
  obtain ⟨V, hV⟩ : ∃ V, V = Jsn.step (s.data.toList.drop i) := ⟨_, rfl⟩
  rw [← hV]
  unfold Jsn.step at hV
  rw [head_at s i hi] at hV
  obtain ⟨tv, nv, hB, hOT, hON⟩ := h
  have hgw := hB.lt
  obtain ⟨d0, d1, -, -, -, -⟩ := hB.cells
  have b1 : (i : Int) < (s.size : Int) := by omega
  have b2 : 0 ≤ (i : Int) := by omega
  go_enter Tryd.func23, Tryd.ntmps23
  go_wp2_with fail
  go_quiet (fail)
  have hL1 : LxB (w.drewN nq) g s i tv nv 0 a := hB
  have hU1 : Upd g w (w.drewN nq) := Upd.of (below_drewN _ _) (Nat.le_of_lt hgw)
  generalize w.drewN nq = w1 at *
  clear d0 d1 hB
  have HV := Lib.hid hV
  clear hV
  go_upto_region 2 with fail
  go_cut [18] from 19 to 32 (fun b wx => b = .bool (Jsn.white s[i]) ∧ LxB wx g s i tv nv 0 a ∧ Upd g w wx)
  case first =>
    have hcs := white_cases s[i]
    generalize hX : (s[i].toNat : Int) = x at *
    clear hX
    rcases hcs with ⟨h1, hp⟩ | ⟨h1, hp⟩ | ⟨h1, hp⟩ | ⟨h1, hp⟩ | ⟨k0, k1, k2, k3, hp⟩
    · subst h1
      go_wp2_with fail
      go_meet
      case rel => exact ⟨by rw [hp], hL1, hU1⟩
    · subst h1
      go_wp2_with fail
      go_meet
      case rel => exact ⟨by rw [hp], hL1, hU1⟩
    · subst h1
      go_wp2_with fail
      go_meet
      case rel => exact ⟨by rw [hp], hL1, hU1⟩
    · subst h1
      go_wp2_with fail
      go_meet
      case rel => exact ⟨by rw [hp], hL1, hU1⟩
    · go_wp2_with fail
      go_meet
      case rel => exact ⟨by rw [hp]; first | done | rfl | (congr 1; simp only [k0, k1, k2, k3]; done) | (simp only [k0, k1, k2, k3]; rfl), hL1, hU1⟩
  case rest =>
    clear hL1 hU1
    obtain ⟨rfl, hL1, hU1⟩ := hcut
    have hOk2 := own_upd hOT (Nat.lt_succ_self g) hU1
    have hOk3 := own_upd hON (Nat.lt_succ_self g) hU1
    cases hw : Jsn.white s[i] with
    | true =>
      have hV2 : V = .skip := by rw [HV.out, hw]; rfl
      clear HV
      obtain ⟨-, d1, -, -, -, -⟩ := hL1.cells
      have d6 := hL1.free 1
      go_wp2_with fail
      refine bodyPost_end (results_none rfl _ _ _) rfl ?_
      subst hV2
      exact ⟨rfl, ⟨tv, nv, hL1.setI (i + 1) _ (by omega), own_set hOk2 _ _ (Nat.lt_succ_self g), own_set hOk3 _ _ (Nat.lt_succ_self g)⟩, hU1.1.setCell (Nat.le_refl _) _⟩
    | false =>
      replace HV : Hid (V = match Jsn.comment (s.data.toList.drop i) with | none => .bad 4 0 | some 0 => Jsn.tstep (Jsn.token (s.data.toList.drop i)) | some (m + 1) => .note (m + 1)) := Lib.hid (by rw [HV.out, hw]; rfl)
      have HH1 : Hid (Calls Tryd.prog 36 #[.pointer (some ⟨g, 0, none⟩), .string ⟨#[47, 47]⟩] wc fun r w' => r = .returned (.bool (h2 47 47 (s.data.toList.drop i))) ∧ ∃ n, w' = wc.drewN n) := Lib.hid (lhas_any g s i tv nv 0 a 47 47 wc hL1 hs (by omega))
      have HH2 : Hid (∀ n, Calls Tryd.prog 36 #[.pointer (some ⟨g, 0, none⟩), .string ⟨#[47, 42]⟩] (wc.drewN n) fun r w' => r = .returned (.bool (h2 47 42 (s.data.toList.drop i))) ∧ ∃ m, w' = (wc.drewN n).drewN m) := Lib.hid (fun n => lhas_any g s i tv nv 0 a 47 42 (wc.drewN n) hL1 hs (by omega))
      obtain ⟨q1, hq1⟩ : ∃ b, b = h2 47 47 (s.data.toList.drop i) := ⟨_, rfl⟩
      obtain ⟨q2, hq2⟩ : ∃ b, b = h2 47 42 (s.data.toList.drop i) := ⟨_, rfl⟩
      rw [← hq1] at HH1
      rw [← hq2] at HH2
      have HQ1 := Lib.hid hq1
      have HQ2 := Lib.hid hq2
      clear hq1 hq2 hw
      go_upto_region 4 with fail
      go_cut [40] from 41 to 46 (fun b wx => b = .bool (q1 || q2) ∧ LxB wx g s i tv nv 0 a ∧ Upd g w wx)
      case first =>
        cases q1 with
        | true =>
          clear HH2
          go_wp2_with (go_at_call 36; with_reducible refine HH1.out.mono ?_; rintro e w3 ⟨rfl, n3, rfl⟩)
          go_meet
          case rel => exact ⟨rfl, hL1, hU1.trans (Upd.of (below_drewN _ _) (Nat.le_of_lt hL1.lt))⟩
        | false =>
          go_wp2_with (first | (go_at_call 36; with_reducible refine HH1.out.mono ?_; rintro e w3 ⟨rfl, n3, rfl⟩) | (go_at_call 36; with_reducible refine (HH2.out _).mono ?_; rintro e w4 ⟨rfl, n4, rfl⟩))
          go_meet
          case rel => exact ⟨rfl, hL1, hU1.trans (Upd.of (below_drewN _ _) (Nat.le_of_lt hL1.lt))⟩
      case rest =>
        clear HH1 HH2
        obtain ⟨rfl, hL3, hU3⟩ := hcut
        have hOT3 := own_upd hOT (Nat.lt_succ_self g) hU3
        have hON3 := own_upd hON (Nat.lt_succ_self g) hU3
        clear hL1 hU1 hOk2 hOk3
        cases hqq : (q1 || q2) with
        | true =>
          have hpp : h2 47 47 (s.data.toList.drop i) = true ∨ h2 47 42 (s.data.toList.drop i) = true := by
            rw [← HQ1.out, ← HQ2.out]
            simpa using hqq
          have HCm := Lib.hid (lcom_any g s i T N a _ ⟨tv, nv, hL3, hOT3, hON3⟩ hs hN hpp)
          have hcp := comment_pos hpp
          have HVc := HV
          clear HQ1 HQ2 HV hqq
          go_wp2_with fail
          refine HCm.out.mono ?_
          rintro e w8 ⟨rfl, hr1, hr2⟩
          go_wp2_with fail
          refine bodyPost_end (results_none rfl _ _ _) rfl ?_
          exact RetNx.com hU3.1 ⟨rfl, hr1, hr2⟩ hcp HVc.out
        | false =>
          have hc0 : Jsn.comment (s.data.toList.drop i) = some 0 := by
            rw [Bool.or_eq_false_iff] at hqq
            exact comment_h2 (by rw [← HQ1.out]; exact hqq.1) (by rw [← HQ2.out]; exact hqq.2)
          have hVt : V = Jsn.tstep (Jsn.token (s.data.toList.drop i)) := by rw [HV.out, hc0]
          unfold Jsn.token at hVt
          rw [head_at s i hi] at hVt
          have HVt := Lib.hid hVt
          clear HQ1 HQ2 HV hqq hc0 hVt
          go_upto_region 6 with fail
          go_cut [49] from 50 to 71 (fun b wx => b = .bool (Jsn.punct s[i]) ∧ LxB wx g s i tv nv 0 a ∧ Upd g w wx)
          case first =>
            have hcs := punct_cases s[i]
            generalize hX : (s[i].toNat : Int) = x at *
            clear hX
            rcases hcs with ⟨h1, hp⟩ | ⟨h1, hp⟩ | ⟨h1, hp⟩ | ⟨h1, hp⟩ | ⟨h1, hp⟩ | ⟨h1, hp⟩ | ⟨k0, k1, k2, k3, k4, k5, hp⟩
            · subst h1
              go_wp2_with fail
              go_meet
              case rel => exact ⟨by rw [hp], hL3, hU3⟩
            · subst h1
              go_wp2_with fail
              go_meet
              case rel => exact ⟨by rw [hp], hL3, hU3⟩
            · subst h1
              go_wp2_with fail
              go_meet
              case rel => exact ⟨by rw [hp], hL3, hU3⟩
            · subst h1
              go_wp2_with fail
              go_meet
              case rel => exact ⟨by rw [hp], hL3, hU3⟩
            · subst h1
              go_wp2_with fail
              go_meet
              case rel => exact ⟨by rw [hp], hL3, hU3⟩
            · subst h1
              go_wp2_with fail
              go_meet
              case rel => exact ⟨by rw [hp], hL3, hU3⟩
            · go_wp2_with fail
              go_meet
              case rel => exact ⟨by rw [hp]; first | done | rfl | (congr 1; simp only [k0, k1, k2, k3, k4, k5]; done) | (simp only [k0, k1, k2, k3, k4, k5]; rfl), hL3, hU3⟩
          case rest =>
            clear hL3 hU3 hOT3 hON3
            obtain ⟨rfl, hL3, hU3⟩ := hcut
            have hOT3 := own_upd hOT (Nat.lt_succ_self g) hU3
            have hON3 := own_upd hON (Nat.lt_succ_self g) hU3
            cases hp : Jsn.punct s[i] with
            | true =>
              have hVp : V = .tok 1 1 ((s.data.toList.drop i).take 1) := by rw [HVt.out, hp]; rfl
              have htk : (s.data.toList.drop i).take 1 = [s[i]] := by rw [drop_at s i hi]; rfl
              rw [htk] at hVp
              obtain ⟨-, d1, -, -, -, -⟩ := hL3.cells
              have d6 := hL3.free 1
              have hL5 := hL3.setI (i + 1) ((i : Int) + 1) (by omega)
              have hU5 := hU3.cell 1 (.int .i64 ((i : Int) + 1))
              clear HVt hp htk
              go_upto_region 8 with fail
              obtain ⟨q, hq⟩ : ∃ q, q = i + 1 := ⟨_, rfl⟩
              have hqi : (i : Int) + 1 = (q : Int) := by omega
              rw [hqi] at hL5 hU5 ⊢
              rw [← hq] at hL5
              have hqs : q ≤ 65536 := by omega
              have hq1 : 1 ≤ q := by omega
              have hqe : (q : Int) - 1 = (i : Int) := by omega
              have hwq : IntKind.i64.wrap ((q : Int) - 1) = (q : Int) - 1 := IntWalk.i64_in _ (by omega)
              have HQE := Lib.hid hqe
              have HQQ := Lib.hid hq
              clear d1 d6 hL3 hU3 hOT3 hON3 hqi hq hqe
              generalize World.setCell _ ⟨g, 1, none⟩ (.int .i64 (q : Int)) = w5 at *
              obtain ⟨-, y1, y2, -, -, -⟩ := hL5.cells
              have y7 := hL5.free 2
              obtain ⟨-, y1a, y2a, -, -, -⟩ := (hL5.keep (below_alloc (.cells #[.int .u8 (s[i].toNat : Int)] 5))).cells
              obtain ⟨-, -, y2b, -, -, -⟩ := ((hL5.keep (below_alloc (.cells #[.int .u8 (s[i].toNat : Int)] 5))).keep (below_alloc (.cells #[.int .i64 1, .int .i64 ((q : Int) - 1), .int .i64 (q : Int), .string ⟨[s[i]].toArray⟩] 61))).cells
              have hOT5 := own_upd hOT (Nat.lt_succ_self g) hU5
              have hON5 := own_upd hON (Nat.lt_succ_self g) hU5
              have hlt5 := hL5.lt
              have HCB := Lib.hid (new_bytes w5.drew _ [s[i]] 5 rfl)
              have HCC := Lib.hid (new_bytes w5 _ [s[i]] 5 rfl)
              have hcvt : (convert 39 9 (.slice (some ⟨w5.heap.size, 0, none⟩) 1 1)).run Tryd.prog (w5.alloc (.cells #[.int .u8 (s[i].toNat : Int)] 5)).drew = .ok (.string ⟨[s[i]].toArray⟩) (w5.alloc (.cells #[.int .u8 (s[i].toNat : Int)] 5)).drew :=
                run_cells_string (P := Tryd.prog) (w := (w5.alloc (.cells #[.int .u8 (s[i].toNat : Int)] 5)).drew) 39 9 5 Tryd.underlying39 (by kernel_rfl) (by kernel_rfl) w5.heap.size 0 1 [s[i]] (fun j hj => by rw [Nat.zero_add]; exact HCC.out j hj)
              obtain ⟨-, y1b, -, -, -, -⟩ := ((hL5.keep (below_alloc (.cells #[.int .u8 (s[i].toNat : Int)] 5))).keep (below_alloc (.cells #[.int .i64 1, .int .i64 ((q : Int) - 1), .int .i64 (q : Int), .string ⟨[s[i]].toArray⟩] 61))).cells
              refine wp_region_held_drew (S := (fun w' => w'.cell? ⟨g, 1, none⟩ = some (.int .i64 (q : Int)))) (by kernel_rfl) ?_ (fun hHeld => ?_)
              · ((try dsimp only); (first | exact y1 | exact y1a | exact y1b | exact e1 | exact (hL6.setT _).cells.2.1))
              refine wpAnyH_take (i := 0) (oi := _) (v := ?_) rfl (by kernel_rfl) (by kernel_rfl) (by kernel_rfl) (fun _ _ _ h => h) (Or.inl ⟨by rfl, ?_⟩) (by assumption) ?_
              rotate_left
              · ((intro w hSw; (try dsimp only at hSw); go_simp) <;> with_reducible rfl)
              refine wpAnyH_take (i := 1) (oi := _) (v := ?_) rfl (by kernel_rfl) (by kernel_rfl) (by kernel_rfl) (fun _ _ _ h => h) (Or.inl ⟨by rfl, ?_⟩) (by assumption) ?_
              rotate_left
              · ((intro w hSw; (try dsimp only at hSw); go_simp) <;> with_reducible rfl)
              refine wpAnyH_take (i := 2) (oi := _) (v := ?_) rfl (by kernel_rfl) (by kernel_rfl) (by kernel_rfl) (fun _ _ _ h => h) (Or.inl ⟨by rfl, ?_⟩) (by assumption) ?_
              rotate_left
              · ((intro w hSw; (try dsimp only at hSw); go_simp) <;> with_reducible rfl)
              refine wpAnyH_take (i := 3) (oi := _) (v := ?_) rfl (by kernel_rfl) (by kernel_rfl) (by kernel_rfl) (fun _ _ _ h => h) (Or.inl ⟨by rfl, ?_⟩) (by assumption) ?_
              rotate_left
              · ((intro w hSw; (try dsimp only at hSw); go_simp) <;> with_reducible rfl)
              refine wpAnyH_take (i := 5) (oi := _) (v := ?_) rfl (by kernel_rfl) (by kernel_rfl) (by kernel_rfl) (fun _ _ _ h => h) (Or.inl ⟨by rfl, ?_⟩) (by assumption) ?_
              rotate_left
              · ((intro w hSw; (try dsimp only at hSw); go_simp) <;> with_reducible rfl)
              refine wpAnyH_take (i := 6) (oi := _) (v := ?_) rfl (by kernel_rfl) (by kernel_rfl) (by kernel_rfl) (fun _ _ _ h => h) (Or.inl ⟨by rfl, ?_⟩) (by assumption) ?_
              rotate_left
              · ((intro w hSw; (try dsimp only at hSw); go_simp) <;> with_reducible rfl)
              refine wpAnyH_take (i := 7) (oi := _) (v := ?_) rfl (by kernel_rfl) (by kernel_rfl) (by kernel_rfl) (fun _ _ _ h => h) (Or.inl ⟨by rfl, ?_⟩) (by assumption) ?_
              rotate_left
              · ((intro w hSw; (try dsimp only at hSw); go_simp) <;> with_reducible rfl)
              refine wpAnyH_take (i := 8) (oi := _) (v := ?_) rfl (by kernel_rfl) (by kernel_rfl) (by kernel_rfl) (fun _ _ _ h => h) (Or.inl ⟨by rfl, ?_⟩) (by assumption) ?_
              rotate_left
              · ((intro w hSw; (try dsimp only at hSw); go_simp) <;> with_reducible rfl)
              refine wpAnyH_take (i := 9) (oi := _) (v := ?_) rfl (by kernel_rfl) (by kernel_rfl) (by kernel_rfl) (fun _ _ _ h => h) (Or.inl ⟨by rfl, ?_⟩) (by assumption) ?_
              rotate_left
              · ((intro w hSw; (try dsimp only at hSw); go_simp) <;> with_reducible rfl)
              refine wpAnyH_take (i := 10) (oi := _) (v := ?_) rfl (by kernel_rfl) (by kernel_rfl) (by kernel_rfl) (fun _ _ _ h => h) (Or.inl ⟨by rfl, ?_⟩) (by assumption) ?_
              rotate_left
              · ((intro w hSw; (try dsimp only at hSw); go_simp) <;> with_reducible rfl)
              refine wpAnyH_take (i := 11) (oi := _) (v := ?_) rfl (by kernel_rfl) (by kernel_rfl) (by kernel_rfl) (fun _ _ _ h => h) (Or.inl ⟨by rfl, ?_⟩) (by assumption) ?_
              rotate_left
              · ((intro w hSw; (try dsimp only at hSw); go_simp) <;> with_reducible rfl)
              refine wpAnyH_take (i := 12) (oi := _) (v := ?_) rfl (by kernel_rfl) (by kernel_rfl) (by kernel_rfl) (fun _ _ _ h => h) (Or.inl ⟨by rfl, ?_⟩) (by assumption) ?_
              rotate_left
              · ((intro w hSw; (try dsimp only at hSw); go_simp) <;> with_reducible rfl)
              refine wpAnyH_take (i := 13) (oi := _) (v := ?_) rfl (by kernel_rfl) (by kernel_rfl) (by kernel_rfl) (fun _ _ _ h => h) (Or.inl ⟨by rfl, ?_⟩) (by assumption) ?_
              rotate_left
              · ((intro w hSw; (try dsimp only at hSw); go_simp) <;> with_reducible rfl)
              refine wpAnyH_take (i := 14) (oi := _) (v := ?_) rfl (by kernel_rfl) (by kernel_rfl) (by kernel_rfl) (fun _ _ _ h => h) (Or.inl ⟨by rfl, ?_⟩) (by assumption) ?_
              rotate_left
              · ((intro w hSw; (try dsimp only at hSw); go_simp) <;> with_reducible rfl)
              refine wpAnyH_ready (rs := [4, 15]) (by kernel_rfl) (by simp) ?_
              refine AllReadyH.cons rfl (fun K hK => ?_) ?_
              · go_simp
                refine hK.out _ _ ?_ (fun hHeld => ?_)
                · ((try dsimp only); (first | exact y1 | exact y1a | exact y1b | exact e1 | exact (hL6.setT _).cells.2.1))
                clear hK K
                refine wpAnyH_ready (rs := [15]) (by kernel_rfl) (by simp) ?_
                refine AllReadyH.cons rfl (fun K hK => ?_) ?_
                · go_simp
                  refine hK.out _ _ ?_ (fun hHeld => ?_)
                  · ((try dsimp only); (first | exact y1 | exact y1a | exact y1b | exact e1 | exact (hL6.setT _).cells.2.1))
                  clear hK K
                  refine wpAnyH_ready (rs := [16]) (by kernel_rfl) (by simp) ?_
                  refine AllReadyH.cons rfl (fun K hK => ?_) ?_
                  · go_simp
                    refine hK.out _ _ ?_ (fun hHeld => ?_)
                    · ((try dsimp only); (first | exact y1 | exact y1a | exact y1b | exact e1 | exact (hL6.setT _).cells.2.1))
                    clear hK K
                    refine wpAnyH_take (i := 17) (oi := _) (v := ?_) rfl (by kernel_rfl) (by kernel_rfl) (by kernel_rfl) (fun _ _ _ h => h) (Or.inl ⟨by rfl, ?_⟩) (by assumption) ?_
                    rotate_left
                    · ((intro w hSw; (try dsimp only at hSw); go_simp) <;> with_reducible rfl)
                    refine wpAnyH_ready (rs := [18]) (by kernel_rfl) (by simp) ?_
                    refine AllReadyH.cons rfl (fun K hK => ?_) ?_
                    · go_simp
                      refine hK.out _ _ ?_ (fun hHeld => ?_)
                      · ((try dsimp only); (first | exact y1 | exact y1a | exact y1b | exact e1 | exact (hL6.setT _).cells.2.1))
                      clear hK K
                      refine wpAnyH_ready (rs := [19]) (by kernel_rfl) (by simp) ?_
                      refine AllReadyH.cons rfl (fun K hK => ?_) ?_
                      · ((refine step_push_row rfl (.tmp 83) (.tmp 97) 28 rfl 61 _ 4 40 rtRowE (g + 1) tv T.length (T.flatMap tokCells) (w5.heap.size + 1) 1 [.int .i64 1, .int .i64 ((q : Int) - 1), .int .i64 (q : Int), .string ⟨[s[i]].toArray⟩] ?_ ?_ ?_ ?_ ?_ ?_ ?_ ?_ ?_ ?_ ?_); exact rfl; exact rfl; exact OwnR.keep hOT5 (dr3 w5 _ _); exact rfl; exact new_cells2 w5 _ _ _; (intro u hu; simp only [List.mem_cons, List.not_mem_nil, or_false] at hu; rcases hu with rfl | rfl | rfl | rfl <;> rfl); exact (fun h => by cases h); omega; omega; exact Nat.le_trans hlt5 (dr3 w5 _ _).size; intro v' w16 hown6 hgr6 hb6; obtain ⟨ao6, n6, cap6, rfl⟩ := own_slc hown6; have hL6 : LxB w16 g s q tv nv 0 a := Blk.below (hL5.keep (dr3 w5 _ _)) hb6 (Nat.lt_succ_self g); have hB6 : Below g w w16 := (hU5.1.trans ((dr3 w5 _ _).mono (Nat.le_of_lt hlt5))).trans (hb6.mono (Nat.le_succ g)); have hON6 : OwnNote w16 (g + 1) nv N := ownsRow_grown (OwnR.keep hON5 (dr3 w5 _ _)) (OwnR.keep hOT5 (dr3 w5 _ _)) (by decide) hgr6; obtain ⟨-, e1, e2, -, -, -⟩ := hL6.cells; have e7 := hL6.free 2; clear hgr6 hb6)
                        refine hK.out _ _ ?_ (fun hHeld => ?_)
                        · ((try dsimp only); (first | exact y1 | exact y1a | exact y1b | exact e1 | exact (hL6.setT _).cells.2.1))
                        clear hK K
                        refine wpAnyH_take (i := 20) (oi := _) (v := ?_) rfl (by kernel_rfl) (by kernel_rfl) (by kernel_rfl) (fun _ _ _ h => h) (Or.inl ⟨by rfl, ?_⟩) (by assumption) ?_
                        rotate_left
                        · ((intro w hSw; (try dsimp only at hSw); go_simp) <;> with_reducible rfl)
                        refine wpAnyH_take (i := 21) (oi := _) (v := ?_) rfl (by kernel_rfl) (by kernel_rfl) (by kernel_rfl) (fun _ _ _ h => h) (Or.inl ⟨by rfl, ?_⟩) (by assumption) ?_
                        rotate_left
                        · ((intro w hSw; (try dsimp only at hSw); go_simp) <;> with_reducible rfl)
                        refine wpAnyH_ready (rs := [22]) (by kernel_rfl) (by simp) ?_
                        refine AllReadyH.cons rfl (fun K hK => ?_) ?_
                        · go_simp
                          refine hK.out _ _ ?_ (fun hHeld => ?_)
                          · ((try dsimp only); (first | exact y1 | exact y1a | exact y1b | exact e1 | exact (hL6.setT _).cells.2.1))
                          clear hK K
                          refine wpAnyH_done (by kernel_rfl) ?_ _
                          go_wp2
                          refine bodyPost_end (results_none rfl _ _ _) rfl ?_
                          subst hVp
                          refine ⟨rfl, ?_, hB6.setCell (Nat.le_refl _) _⟩
                          show LxOk _ g s (i + 1) (T ++ [⟨1, i, i + 1, [s[i]]⟩]) N a
                          have hqq := HQQ.out
                          rw [HQE.out] at hown6
                          subst hqq
                          exact ⟨_, nv, hL6.setT _, own_set (OwnRT.snoc (t := ⟨1, i, i + 1, [s[i]]⟩) hown6) _ _ (Nat.lt_succ_self g), own_set hON6 _ _ (Nat.lt_succ_self g)⟩
                        exact AllReadyH.nil
                      exact AllReadyH.nil
                    exact AllReadyH.nil
                  exact AllReadyH.nil
                exact AllReadyH.nil
              refine AllReadyH.cons rfl (fun K hK => ?_) ?_
              · go_simp
                refine hK.out _ _ ?_ (fun hHeld => ?_)
                · ((try dsimp only); (first | exact y1 | exact y1a | exact y1b | exact e1 | exact (hL6.setT _).cells.2.1))
                clear hK K
                refine wpAnyH_ready (rs := [4, 16]) (by kernel_rfl) (by simp) ?_
                refine AllReadyH.cons rfl (fun K hK => ?_) ?_
                · go_simp
                  refine hK.out _ _ ?_ (fun hHeld => ?_)
                  · ((try dsimp only); (first | exact y1 | exact y1a | exact y1b | exact e1 | exact (hL6.setT _).cells.2.1))
                  clear hK K
                  refine wpAnyH_ready (rs := [16]) (by kernel_rfl) (by simp) ?_
                  refine AllReadyH.cons rfl (fun K hK => ?_) ?_
                  · go_simp
                    refine hK.out _ _ ?_ (fun hHeld => ?_)
                    · ((try dsimp only); (first | exact y1 | exact y1a | exact y1b | exact e1 | exact (hL6.setT _).cells.2.1))
                    clear hK K
                    refine wpAnyH_take (i := 17) (oi := _) (v := ?_) rfl (by kernel_rfl) (by kernel_rfl) (by kernel_rfl) (fun _ _ _ h => h) (Or.inl ⟨by rfl, ?_⟩) (by assumption) ?_
                    rotate_left
                    · ((intro w hSw; (try dsimp only at hSw); go_simp) <;> with_reducible rfl)
                    refine wpAnyH_ready (rs := [18]) (by kernel_rfl) (by simp) ?_
                    refine AllReadyH.cons rfl (fun K hK => ?_) ?_
                    · go_simp
                      refine hK.out _ _ ?_ (fun hHeld => ?_)
                      · ((try dsimp only); (first | exact y1 | exact y1a | exact y1b | exact e1 | exact (hL6.setT _).cells.2.1))
                      clear hK K
                      refine wpAnyH_ready (rs := [19]) (by kernel_rfl) (by simp) ?_
                      refine AllReadyH.cons rfl (fun K hK => ?_) ?_
                      · ((refine step_push_row rfl (.tmp 83) (.tmp 97) 28 rfl 61 _ 4 40 rtRowE (g + 1) tv T.length (T.flatMap tokCells) (w5.heap.size + 1) 1 [.int .i64 1, .int .i64 ((q : Int) - 1), .int .i64 (q : Int), .string ⟨[s[i]].toArray⟩] ?_ ?_ ?_ ?_ ?_ ?_ ?_ ?_ ?_ ?_ ?_); exact rfl; exact rfl; exact OwnR.keep hOT5 (dr3 w5 _ _); exact rfl; exact new_cells2 w5 _ _ _; (intro u hu; simp only [List.mem_cons, List.not_mem_nil, or_false] at hu; rcases hu with rfl | rfl | rfl | rfl <;> rfl); exact (fun h => by cases h); omega; omega; exact Nat.le_trans hlt5 (dr3 w5 _ _).size; intro v' w16 hown6 hgr6 hb6; obtain ⟨ao6, n6, cap6, rfl⟩ := own_slc hown6; have hL6 : LxB w16 g s q tv nv 0 a := Blk.below (hL5.keep (dr3 w5 _ _)) hb6 (Nat.lt_succ_self g); have hB6 : Below g w w16 := (hU5.1.trans ((dr3 w5 _ _).mono (Nat.le_of_lt hlt5))).trans (hb6.mono (Nat.le_succ g)); have hON6 : OwnNote w16 (g + 1) nv N := ownsRow_grown (OwnR.keep hON5 (dr3 w5 _ _)) (OwnR.keep hOT5 (dr3 w5 _ _)) (by decide) hgr6; obtain ⟨-, e1, e2, -, -, -⟩ := hL6.cells; have e7 := hL6.free 2; clear hgr6 hb6)
                        refine hK.out _ _ ?_ (fun hHeld => ?_)
                        · ((try dsimp only); (first | exact y1 | exact y1a | exact y1b | exact e1 | exact (hL6.setT _).cells.2.1))
                        clear hK K
                        refine wpAnyH_take (i := 20) (oi := _) (v := ?_) rfl (by kernel_rfl) (by kernel_rfl) (by kernel_rfl) (fun _ _ _ h => h) (Or.inl ⟨by rfl, ?_⟩) (by assumption) ?_
                        rotate_left
                        · ((intro w hSw; (try dsimp only at hSw); go_simp) <;> with_reducible rfl)
                        refine wpAnyH_take (i := 21) (oi := _) (v := ?_) rfl (by kernel_rfl) (by kernel_rfl) (by kernel_rfl) (fun _ _ _ h => h) (Or.inl ⟨by rfl, ?_⟩) (by assumption) ?_
                        rotate_left
                        · ((intro w hSw; (try dsimp only at hSw); go_simp) <;> with_reducible rfl)
                        refine wpAnyH_ready (rs := [22]) (by kernel_rfl) (by simp) ?_
                        refine AllReadyH.cons rfl (fun K hK => ?_) ?_
                        · go_simp
                          refine hK.out _ _ ?_ (fun hHeld => ?_)
                          · ((try dsimp only); (first | exact y1 | exact y1a | exact y1b | exact e1 | exact (hL6.setT _).cells.2.1))
                          clear hK K
                          refine wpAnyH_done (by kernel_rfl) ?_ _
                          go_wp2
                          refine bodyPost_end (results_none rfl _ _ _) rfl ?_
                          subst hVp
                          refine ⟨rfl, ?_, hB6.setCell (Nat.le_refl _) _⟩
                          show LxOk _ g s (i + 1) (T ++ [⟨1, i, i + 1, [s[i]]⟩]) N a
                          have hqq := HQQ.out
                          rw [HQE.out] at hown6
                          subst hqq
                          exact ⟨_, nv, hL6.setT _, own_set (OwnRT.snoc (t := ⟨1, i, i + 1, [s[i]]⟩) hown6) _ _ (Nat.lt_succ_self g), own_set hON6 _ _ (Nat.lt_succ_self g)⟩
                        exact AllReadyH.nil
                      exact AllReadyH.nil
                    exact AllReadyH.nil
                  exact AllReadyH.nil
                refine AllReadyH.cons rfl (fun K hK => ?_) ?_
                · go_simp
                  refine hK.out _ _ ?_ (fun hHeld => ?_)
                  · ((try dsimp only); (first | exact y1 | exact y1a | exact y1b | exact e1 | exact (hL6.setT _).cells.2.1))
                  clear hK K
                  refine wpAnyH_take (i := 17) (oi := _) (v := ?_) rfl (by kernel_rfl) (by kernel_rfl) (by kernel_rfl) (fun _ _ _ h => h) (Or.inl ⟨by rfl, ?_⟩) (by assumption) ?_
                  rotate_left
                  · ((intro w hSw; (try dsimp only at hSw); go_simp) <;> with_reducible rfl)
                  refine wpAnyH_ready (rs := [4, 18]) (by kernel_rfl) (by simp) ?_
                  refine AllReadyH.cons rfl (fun K hK => ?_) ?_
                  · go_simp
                    refine hK.out _ _ ?_ (fun hHeld => ?_)
                    · ((try dsimp only); (first | exact y1 | exact y1a | exact y1b | exact e1 | exact (hL6.setT _).cells.2.1))
                    clear hK K
                    refine wpAnyH_ready (rs := [18]) (by kernel_rfl) (by simp) ?_
                    refine AllReadyH.cons rfl (fun K hK => ?_) ?_
                    · go_simp
                      refine hK.out _ _ ?_ (fun hHeld => ?_)
                      · ((try dsimp only); (first | exact y1 | exact y1a | exact y1b | exact e1 | exact (hL6.setT _).cells.2.1))
                      clear hK K
                      refine wpAnyH_ready (rs := [19]) (by kernel_rfl) (by simp) ?_
                      refine AllReadyH.cons rfl (fun K hK => ?_) ?_
                      · ((refine step_push_row rfl (.tmp 83) (.tmp 97) 28 rfl 61 _ 4 40 rtRowE (g + 1) tv T.length (T.flatMap tokCells) (w5.heap.size + 1) 1 [.int .i64 1, .int .i64 ((q : Int) - 1), .int .i64 (q : Int), .string ⟨[s[i]].toArray⟩] ?_ ?_ ?_ ?_ ?_ ?_ ?_ ?_ ?_ ?_ ?_); exact rfl; exact rfl; exact OwnR.keep hOT5 (dr3 w5 _ _); exact rfl; exact new_cells2 w5 _ _ _; (intro u hu; simp only [List.mem_cons, List.not_mem_nil, or_false] at hu; rcases hu with rfl | rfl | rfl | rfl <;> rfl); exact (fun h => by cases h); omega; omega; exact Nat.le_trans hlt5 (dr3 w5 _ _).size; intro v' w16 hown6 hgr6 hb6; obtain ⟨ao6, n6, cap6, rfl⟩ := own_slc hown6; have hL6 : LxB w16 g s q tv nv 0 a := Blk.below (hL5.keep (dr3 w5 _ _)) hb6 (Nat.lt_succ_self g); have hB6 : Below g w w16 := (hU5.1.trans ((dr3 w5 _ _).mono (Nat.le_of_lt hlt5))).trans (hb6.mono (Nat.le_succ g)); have hON6 : OwnNote w16 (g + 1) nv N := ownsRow_grown (OwnR.keep hON5 (dr3 w5 _ _)) (OwnR.keep hOT5 (dr3 w5 _ _)) (by decide) hgr6; obtain ⟨-, e1, e2, -, -, -⟩ := hL6.cells; have e7 := hL6.free 2; clear hgr6 hb6)
                        refine hK.out _ _ ?_ (fun hHeld => ?_)
                        · ((try dsimp only); (first | exact y1 | exact y1a | exact y1b | exact e1 | exact (hL6.setT _).cells.2.1))
                        clear hK K
                        refine wpAnyH_take (i := 20) (oi := _) (v := ?_) rfl (by kernel_rfl) (by kernel_rfl) (by kernel_rfl) (fun _ _ _ h => h) (Or.inl ⟨by rfl, ?_⟩) (by assumption) ?_
                        rotate_left
                        · ((intro w hSw; (try dsimp only at hSw); go_simp) <;> with_reducible rfl)
                        refine wpAnyH_take (i := 21) (oi := _) (v := ?_) rfl (by kernel_rfl) (by kernel_rfl) (by kernel_rfl) (fun _ _ _ h => h) (Or.inl ⟨by rfl, ?_⟩) (by assumption) ?_
                        rotate_left
                        · ((intro w hSw; (try dsimp only at hSw); go_simp) <;> with_reducible rfl)
                        refine wpAnyH_ready (rs := [22]) (by kernel_rfl) (by simp) ?_
                        refine AllReadyH.cons rfl (fun K hK => ?_) ?_
                        · go_simp
                          refine hK.out _ _ ?_ (fun hHeld => ?_)
                          · ((try dsimp only); (first | exact y1 | exact y1a | exact y1b | exact e1 | exact (hL6.setT _).cells.2.1))
                          clear hK K
                          refine wpAnyH_done (by kernel_rfl) ?_ _
                          go_wp2
                          refine bodyPost_end (results_none rfl _ _ _) rfl ?_
                          subst hVp
                          refine ⟨rfl, ?_, hB6.setCell (Nat.le_refl _) _⟩
                          show LxOk _ g s (i + 1) (T ++ [⟨1, i, i + 1, [s[i]]⟩]) N a
                          have hqq := HQQ.out
                          rw [HQE.out] at hown6
                          subst hqq
                          exact ⟨_, nv, hL6.setT _, own_set (OwnRT.snoc (t := ⟨1, i, i + 1, [s[i]]⟩) hown6) _ _ (Nat.lt_succ_self g), own_set hON6 _ _ (Nat.lt_succ_self g)⟩
                        exact AllReadyH.nil
                      exact AllReadyH.nil
                    exact AllReadyH.nil
                  refine AllReadyH.cons rfl (fun K hK => ?_) ?_
                  · go_simp
                    refine hK.out _ _ ?_ (fun hHeld => ?_)
                    · ((try dsimp only); (first | exact y1 | exact y1a | exact y1b | exact e1 | exact (hL6.setT _).cells.2.1))
                    clear hK K
                    refine wpAnyH_ready (rs := [4]) (by kernel_rfl) (by simp) ?_
                    refine AllReadyH.cons rfl (fun K hK => ?_) ?_
                    · go_simp
                      refine hK.out _ _ ?_ (fun hHeld => ?_)
                      · ((try dsimp only); (first | exact y1 | exact y1a | exact y1b | exact e1 | exact (hL6.setT _).cells.2.1))
                      clear hK K
                      refine wpAnyH_ready (rs := [19]) (by kernel_rfl) (by simp) ?_
                      refine AllReadyH.cons rfl (fun K hK => ?_) ?_
                      · ((refine step_push_row rfl (.tmp 83) (.tmp 97) 28 rfl 61 _ 4 40 rtRowE (g + 1) tv T.length (T.flatMap tokCells) (w5.heap.size + 1) 1 [.int .i64 1, .int .i64 ((q : Int) - 1), .int .i64 (q : Int), .string ⟨[s[i]].toArray⟩] ?_ ?_ ?_ ?_ ?_ ?_ ?_ ?_ ?_ ?_ ?_); exact rfl; exact rfl; exact OwnR.keep hOT5 (dr3 w5 _ _); exact rfl; exact new_cells2 w5 _ _ _; (intro u hu; simp only [List.mem_cons, List.not_mem_nil, or_false] at hu; rcases hu with rfl | rfl | rfl | rfl <;> rfl); exact (fun h => by cases h); omega; omega; exact Nat.le_trans hlt5 (dr3 w5 _ _).size; intro v' w16 hown6 hgr6 hb6; obtain ⟨ao6, n6, cap6, rfl⟩ := own_slc hown6; have hL6 : LxB w16 g s q tv nv 0 a := Blk.below (hL5.keep (dr3 w5 _ _)) hb6 (Nat.lt_succ_self g); have hB6 : Below g w w16 := (hU5.1.trans ((dr3 w5 _ _).mono (Nat.le_of_lt hlt5))).trans (hb6.mono (Nat.le_succ g)); have hON6 : OwnNote w16 (g + 1) nv N := ownsRow_grown (OwnR.keep hON5 (dr3 w5 _ _)) (OwnR.keep hOT5 (dr3 w5 _ _)) (by decide) hgr6; obtain ⟨-, e1, e2, -, -, -⟩ := hL6.cells; have e7 := hL6.free 2; clear hgr6 hb6)
                        refine hK.out _ _ ?_ (fun hHeld => ?_)
                        · ((try dsimp only); (first | exact y1 | exact y1a | exact y1b | exact e1 | exact (hL6.setT _).cells.2.1))
                        clear hK K
                        refine wpAnyH_take (i := 20) (oi := _) (v := ?_) rfl (by kernel_rfl) (by kernel_rfl) (by kernel_rfl) (fun _ _ _ h => h) (Or.inl ⟨by rfl, ?_⟩) (by assumption) ?_
                        rotate_left
                        · ((intro w hSw; (try dsimp only at hSw); go_simp) <;> with_reducible rfl)
                        refine wpAnyH_take (i := 21) (oi := _) (v := ?_) rfl (by kernel_rfl) (by kernel_rfl) (by kernel_rfl) (fun _ _ _ h => h) (Or.inl ⟨by rfl, ?_⟩) (by assumption) ?_
                        rotate_left
                        · ((intro w hSw; (try dsimp only at hSw); go_simp) <;> with_reducible rfl)
                        refine wpAnyH_ready (rs := [22]) (by kernel_rfl) (by simp) ?_
                        refine AllReadyH.cons rfl (fun K hK => ?_) ?_
                        · go_simp
                          refine hK.out _ _ ?_ (fun hHeld => ?_)
                          · ((try dsimp only); (first | exact y1 | exact y1a | exact y1b | exact e1 | exact (hL6.setT _).cells.2.1))
                          clear hK K
                          refine wpAnyH_done (by kernel_rfl) ?_ _
                          go_wp2
                          refine bodyPost_end (results_none rfl _ _ _) rfl ?_
                          subst hVp
                          refine ⟨rfl, ?_, hB6.setCell (Nat.le_refl _) _⟩
                          show LxOk _ g s (i + 1) (T ++ [⟨1, i, i + 1, [s[i]]⟩]) N a
                          have hqq := HQQ.out
                          rw [HQE.out] at hown6
                          subst hqq
                          exact ⟨_, nv, hL6.setT _, own_set (OwnRT.snoc (t := ⟨1, i, i + 1, [s[i]]⟩) hown6) _ _ (Nat.lt_succ_self g), own_set hON6 _ _ (Nat.lt_succ_self g)⟩
                        exact AllReadyH.nil
                      exact AllReadyH.nil
                    exact AllReadyH.nil
                  exact AllReadyH.nil
                exact AllReadyH.nil
              exact AllReadyH.nil
            | false =>
              have HVt2 : Hid (V = Jsn.tstep (if s[i] == 34 then Jsn.qtok (Jsn.quo (s.data.toList.drop i).length 1 [] ((s.data.toList.drop i).drop 1)) else if Jsn.seqc s[i] then Jsn.sequence (s.data.toList.drop i) else .bad 4 0)) := Lib.hid (by rw [HVt.out, hp]; rfl)
              clear HVt hp
              by_cases h34 : s[i] = 34
              · have n34 : ((s[i].toNat : Int) == 34) = true := by rw [h34]; rfl
                have hVq : V = Jsn.tstep (Jsn.qtok (Jsn.quo (s.data.toList.drop i).length 1 [] ((s.data.toList.drop i).drop 1))) := by rw [HVt2.out, h34]; rfl
                have HTx := Lib.hid (ltext_any g s i T N a _ ⟨tv, nv, hL3, hOT3, hON3⟩ hs hi hT)
                clear HVt2
                go_wp2_with fail
                refine HTx.out.mono ?_
                rintro e w8 ⟨rfl, hr1, hr2⟩
                go_wp2_with fail
                refine bodyPost_end (results_none rfl _ _ _) rfl ?_
                rw [hVq]
                exact RetNx.tx hU3.1 ⟨rfl, hr1, hr2⟩
              · have n34 : ((s[i].toNat : Int) == 34) = false := byte_ne 34 h34
                have HVs : Hid (V = Jsn.tstep (if Jsn.seqc s[i] then Jsn.sequence (s.data.toList.drop i) else .bad 4 0)) := Lib.hid (by rw [HVt2.out, beq_eq_false_iff_ne.2 h34]; rfl)
                have HL1 := fun w => lletter_any s[i] w
                have HN1 := fun w => lnumeric_any s[i] w
                clear HVt2 h34
                have hsc := seqc_split s[i]
                generalize hsq : Jsn.seqc s[i] = sq at *
                have HSQ := Lib.hid hsq
                clear hsq
                rcases hsc with ⟨e1, rfl⟩ | ⟨e1, e2⟩
                · rw [e1] at HL1
                  have HL1 := Lib.hid HL1
                  have hVs : V = Jsn.tstep (Jsn.sequence (s.data.toList.drop i)) := HVs.out
                  have HSe := Lib.hid (lseq_any g s i T N a _ ⟨tv, nv, hL3, hOT3, hON3⟩ hs hi hT HSQ.out)
                  clear HVs HN1 e1 HSQ
                  go_wp2_with (go_at_call 39; with_reducible refine (HL1.out _).mono ?_; rintro e w5 ⟨rfl, rfl⟩)
                  refine HSe.out.mono ?_
                  rintro e w8 ⟨rfl, hr1, hr2⟩
                  go_wp2_with fail
                  refine bodyPost_end (results_none rfl _ _ _) rfl ?_
                  rw [hVs]
                  exact RetNx.lx hU3.1 ⟨rfl, hr1, hr2⟩
                · rw [e1] at HL1
                  rw [← e2] at HN1
                  have HL1 := Lib.hid HL1
                  have HN1 := Lib.hid HN1
                  cases sq with
                  | true =>
                    have hVs : V = Jsn.tstep (Jsn.sequence (s.data.toList.drop i)) := HVs.out
                    have HSe := Lib.hid (lseq_any g s i T N a _ ⟨tv, nv, hL3, hOT3, hON3⟩ hs hi hT HSQ.out)
                    clear HVs e1 e2 HSQ
                    go_wp2_with (first | (go_at_call 39; with_reducible refine (HL1.out _).mono ?_; rintro e w5 ⟨rfl, rfl⟩) | (go_at_call 40; with_reducible refine (HN1.out _).mono ?_; rintro e w5 ⟨rfl, rfl⟩))
                    refine HSe.out.mono ?_
                    rintro e w8 ⟨rfl, hr1, hr2⟩
                    go_wp2_with fail
                    refine bodyPost_end (results_none rfl _ _ _) rfl ?_
                    rw [hVs]
                    exact RetNx.lx hU3.1 ⟨rfl, hr1, hr2⟩
                  | false =>
                    have hVs : V = .bad 4 0 := HVs.out
                    have HFL := Lib.hid (fun w1 (h1 : LxB w1 g s i tv nv 0 a) => lfail_any g s i tv nv 0 a 4 (i : Int) w1 h1)
                    obtain ⟨-, d1, -, -, -, -⟩ := hL3.cells
                    clear HVs e1 e2 HSQ
                    go_wp2_with (first | (go_at_call 39; with_reducible refine (HL1.out _).mono ?_; rintro e w5 ⟨rfl, rfl⟩) | (go_at_call 40; with_reducible refine (HN1.out _).mono ?_; rintro e w5 ⟨rfl, rfl⟩) | (go_at_call 42; with_reducible refine (HFL.out _ hL3).mono ?_; rintro e w8 ⟨rfl, hL8, hU8⟩))
                    refine bodyPost_end (results_none rfl _ _ _) rfl ?_
                    subst hVs
                    exact ⟨rfl, ⟨i, tv, nv, hL8⟩, (hU3.trans hU8).1⟩
end Go.Proofs.YtjfkiomegacpeaaDoor
