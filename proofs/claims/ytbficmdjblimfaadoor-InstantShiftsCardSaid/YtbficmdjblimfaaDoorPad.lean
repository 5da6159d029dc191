/-
  Numbers with leading zeros: instant.pad and the reference's pad by their contracts; strings.Repeat of "0".
-/
import Derived.Test.YtbficmdjblimfaaDoorCivA
import Derived.Test.YtbficmdjblimfaaDoorShelf
import Derived.Lib.ItoaLen
import Derived.Lib.AppendIntMem
namespace Go.Proofs.YtbficmdjblimfaaDoor
open Go.RowKit
theorem u8_ofNat (n : Nat) (h : n < 256) : (UInt8.ofNat n).toNat = n := by
  simp [UInt8.toNat_ofNat', Nat.mod_eq_of_lt h]
theorem app_lst (a b : ByteArray) : (a ++ b).data.toList = a.data.toList ++ b.data.toList := by
  rw [ByteArray.data_append]
  simp
theorem ba_of {t : ByteArray} {l : List UInt8} (h : t.data.toList = l) : t = ⟨l.toArray⟩ := by
  cases t with
  | mk a => congr 1; rw [← h]
section
variable {P : Program} {w : World} {ops : Array Oper} {rest : List Oper} {o : Oper} {a : Act} {Q : Exit → Act → World → Prop}
theorem wpList_cells_string (hgd : o.guard = none) (src dst : TypeId) (x : Operand) (ho : o.op = .convert src dst x) (e : TypeId) (hs : P.underlying src = some (.slice e)) (he : P.underlying e = some (.int .u8)) (hd : P.underlying dst = some .string)
    (g n cap : Nat) (l : List UInt8) (hn : n = l.length) (hx : a.eval x = .slice (some ⟨g, 0, none⟩) n cap) (hc : ∀ j, j < n → w.cell? ⟨g, j, none⟩ = some (.int .u8 (byteAt l j)))
    (h : wpList P ops Q rest (a.put o.dst (.string ⟨l.toArray⟩)) w) : wpList P ops Q (o :: rest) a w := by
  refine wpList_plain hgd fun K hK => ?_
  subst hn
  have hrun := run_cells_string (P := P) (w := w) src dst e hs he hd g 0 cap l (fun j hj => by rw [Nat.zero_add]; exact hc j hj)
  unfold Oper.wp execOp
  simp only [ho, hx, Sem.run_bind, hrun, Result.andThen_ok]
  exact hK _ _ h
end
theorem new_bytes (w : World) (vs : List Int) (l : List UInt8) (T : TypeId) (h : l.map (fun b : UInt8 => (b.toNat : Int)) = vs) :
    ∀ j, j < l.length → (w.alloc (.cells (vs.map (Value.int .u8 ·)).toArray T)).cell? ⟨w.heap.size, j, none⟩ = some (.int .u8 (byteAt l j)) := by
  intro j hj
  subst h
  rw [(Blk.new w T _).at_ j]
  unfold byteAt
  rw [List.getElem?_toArray, List.getElem?_map, List.getElem?_map, List.getElem?_eq_getElem hj, List.getD_eq_getElem?_getD, List.getElem?_eq_getElem hj]
  rfl
theorem below_gr (w : World) (k : Nat) (os : Array Obj) : Below w.heap.size w (Go.Sort.grow (w.drewN k) os) := by
  refine ⟨rfl, rfl, rfl, by simp [Go.Sort.grow, World.drewN], fun i hi => ?_⟩
  show (w.heap ++ os)[i]? = w.heap[i]?
  exact Array.getElem?_append_left hi
/-- What the calls find in the world. -/
def EnvI (w : World) : Prop := Lib.TabIs Tryd.prog w "internal/strconv.uint64pow10" .u64 Lib.pow10Tab
theorem EnvI.below {w w' : World} (h : EnvI w) (hb : Below w.heap.size w w') : EnvI w' := Lib.tabBelow_of_tabIs h w' hb
theorem pad_zero : ∀ n, Ins.pad n 0 = List.replicate n 48
  | 0 => rfl
  | n + 1 => by
    rw [Ins.pad, Nat.zero_div, pad_zero n, List.replicate_succ']
    rfl
theorem pad_dec : ∀ (n u : Nat), 0 < n → u < 10 ^ n → Ins.pad n u = List.replicate (n - (Lib.decDigits u).length) 48 ++ Lib.decDigits u ∧ (Lib.decDigits u).length ≤ n
  | 0, _, h, _ => absurd h (Nat.lt_irrefl 0)
  | n + 1, u, _, h => by
    by_cases hu : u < 10
    · rw [Lib.decDigits_one hu, Ins.pad, show u / 10 = 0 by omega, pad_zero]
      refine ⟨?_, by simp⟩
      rw [List.length_singleton, Nat.add_sub_cancel]
      unfold Ins.dg
      rw [Nat.mod_eq_of_lt hu]
    · have hp : u / 10 < 10 ^ n := by rw [Nat.pow_succ] at h; omega
      have hn : n ≠ 0 := by
        rintro rfl
        rw [Nat.pow_zero] at hp
        omega
      obtain ⟨ih, il⟩ := pad_dec n (u / 10) (by omega) hp
      rw [Lib.decDigits, dif_neg hu, Ins.pad, ih]
      refine ⟨?_, by simp; omega⟩
      rw [List.length_append, List.length_singleton, Nat.add_sub_add_right, List.append_assoc]
      rfl
set_option maxRecDepth 100000 in
set_option maxHeartbeats 4000000 in
theorem rpad_any (n x : Nat) (hn : n ≤ 1000) (hx : x ≤ 9223372036854775807) (w : World) :
    Calls Tryd.prog 35 #[.int .i64 (x : Int), .int .i64 (n : Int)] w fun e w' => e = .returned (.string ⟨(Ins.pad n x).toArray⟩) ∧ Below w.heap.size w w' := by
  obtain ⟨P, hP⟩ : ∃ P, P = Ins.pad n x := ⟨_, rfl⟩
  rw [← hP]
  have HP : Hid (P = Ins.pad n x ++ []) := Lib.hid (by rw [hP, List.append_nil])
  clear hP
  go_enter Tryd.func35, Tryd.ntmps35
  go_wp2_with fail
  go_loopg [0, 5, 6] n (fun g xv sv iv wr => ∃ (y i : Nat) (s : ByteArray), i + g = n ∧ xv = .int .i64 (y : Int) ∧ sv = .string s ∧ iv = .int .i64 (i : Int) ∧ y ≤ 9223372036854775807 ∧ s.size = i ∧ Hid (P = Ins.pad g y ++ s.data.toList) ∧ Below w.heap.size w wr)
  case atStart => exact ⟨x, 0, _, by omega, rfl, rfl, rfl, hx, rfl, HP, Below.refl _ _⟩
  case round =>
    obtain ⟨y, i, s, hg, rfl, rfl, rfl, hy, hsz, HPg, hbr⟩ := hrel
    by_cases hi : i < n
    · obtain ⟨g, rfl⟩ : ∃ g, gk = g + 1 := ⟨gk - 1, by omega⟩
      have HL : [Ins.dg y].map (fun b : UInt8 => (b.toNat : Int)) = [48 + (y : Int) % 10] := by
        simp only [List.map_cons, List.map_nil]
        unfold Ins.dg
        rw [u8_ofNat _ (by omega)]
        simp
      have HC := Lib.hid (new_bytes wr _ _ 5 HL)
      have HP2 : Hid (P = Ins.pad g (y / 10) ++ ((⟨[Ins.dg y].toArray⟩ : ByteArray) ++ s).data.toList) := Lib.hid (by
        rw [HPg.out, app_lst, Ins.pad, List.append_assoc])
      have hz1 : Hid ((⟨[Ins.dg y].toArray⟩ : ByteArray).size = 1) := Lib.hid rfl
      have hz1' : (⟨[Ins.dg y].toArray⟩ : ByteArray).size ≤ 1 := Nat.le_refl _
      clear HL HPg HP
      go_wp2_with ((with_reducible refine wpList_cells_string rfl 41 9 (.tmp 16) rfl 5 Tryd.underlying41 (by kernel_rfl) (by kernel_rfl) wr.heap.size 1 1 [Ins.dg y] rfl ?_ ?_ ?_); exact rfl; exact HC.out)
      go_roundg g
      case measure => omega
      case rel => 
        exact ⟨y / 10, i + 1, _, by omega, by go_num, rfl, by go_num, by omega, by rw [ByteArray.size_append, hz1.out]; omega, HP2, hbr.trans ((below_alloc (w := wr) _).mono hbr.size)⟩
    · obtain rfl : i = n := by omega
      have HQ : Hid (P = s.data.toList) := Lib.hid (by
        have := HPg.out
        rw [show gk = 0 by omega] at this
        exact this)
      clear HPg HP
      go_wp2_with fail
      go_ret
      rw [HQ.out]
      exact ⟨rfl, hbr⟩
def zeros64 : ByteArray := ⟨#[48, 48, 48, 48, 48, 48, 48, 48, 48, 48, 48, 48, 48, 48, 48, 48, 48, 48, 48, 48, 48, 48, 48, 48, 48, 48, 48, 48, 48, 48, 48, 48, 48, 48, 48, 48, 48, 48, 48, 48, 48, 48, 48, 48, 48, 48, 48, 48, 48, 48, 48, 48, 48, 48, 48, 48, 48, 48, 48, 48, 48, 48, 48, 48]⟩
theorem zeros_cut : ∀ n, n < 11 → zeros64.extract 0 n = ⟨(List.replicate n 48).toArray⟩ := by decide +kernel
set_option maxRecDepth 100000 in
set_option maxHeartbeats 4000000 in
theorem repeat0_any (n : Nat) (hn : n < 11) (w : World) :
    Calls Tryd.prog 47 #[.string ⟨#[48]⟩, .int .i64 (n : Int)] w fun e w' => e = .returned (.string ⟨(List.replicate n 48).toArray⟩) ∧ w = w' := by
  have HB := Lib.hid (fun w1 => Tryd.bits_Mul 1 n (by decide) (by omega) w1)
  have HZ := Lib.hid (zeros_cut n hn)
  rw [show ((1 * n / 18446744073709551616 : Nat) : Int) = 0 by omega, show ((1 * n % 18446744073709551616 : Nat) : Int) = n by omega] at HB
  have H0 : Hid (n = 0 → (⟨(List.replicate n 48).toArray⟩ : ByteArray) = ⟨#[]⟩) := Lib.hid (by rintro rfl; rfl)
  have H1 : Hid (n = 1 → (⟨(List.replicate n 48).toArray⟩ : ByteArray) = ⟨#[48]⟩) := Lib.hid (by rintro rfl; rfl)
  generalize (⟨(List.replicate n 48).toArray⟩ : ByteArray) = Z at *
  by_cases c0 : n = 0
  · have hz := H0.out c0
    clear H0 H1 HZ HB
    subst c0
    go_enter Tryd.func47, Tryd.ntmps47
    go_wp2_with fail
    go_ret
    rw [hz]
    exact ⟨rfl, rfl⟩
  · by_cases c1 : n = 1
    · have hz := H1.out c1
      clear H0 H1 HZ HB
      subst c1
      go_enter Tryd.func47, Tryd.ntmps47
      go_wp2_with fail
      go_ret
      rw [hz]
      exact ⟨rfl, rfl⟩
    · have f0 : ((n : Int) == 0) = false := by rw [beq_eq_false_iff_ne]; omega
      have f1 : ((n : Int) == 1) = false := by rw [beq_eq_false_iff_ne]; omega
      clear H0 H1 c0 c1
      go_enter Tryd.func47, Tryd.ntmps47
      go_wp2_with (first | (go_at_call 54; refine (HB.out _).mono ?_; rintro e w3 ⟨rfl, rfl⟩) | (go_at_call 55; refine (Tryd.strings_HasPrefix _ _ _).mono ?_; rintro e w4 ⟨rfl, rfl⟩; generalize hB : Lib.hasPrefix _ _ = B; cases B <;> first | (exfalso; revert hB; decide +kernel) | clear hB))
      go_ret
      rw [← HZ.out]
      exact ⟨rfl, rfl⟩
set_option maxRecDepth 100000 in
set_option maxHeartbeats 4000000 in
theorem pad_any (n u : Nat) (h0 : 0 < n) (h9 : n ≤ 9) (hu : u < 10 ^ n) (w : World) (hE : EnvI w) :
    Calls Tryd.prog 40 #[.int .i64 (u : Int), .int .i64 (n : Int)] w fun e w' => e = .returned (.string ⟨(Ins.pad n u).toArray⟩) ∧ Below w.heap.size w w' := by
  obtain ⟨hp, hl⟩ := pad_dec n u h0 hu
  rw [hp]
  have h10 : 10 ^ n ≤ 10 ^ 9 := Nat.pow_le_pow_right (by decide) h9
  have HI := Lib.hid (fun w1 (hT : EnvI w1) => Tryd.strconv_Itoa (u : Int) (by omega) (by omega) w1 hT)
  rw [Lib.itoa_nonneg] at HI
  have HR := Lib.hid (fun w1 => repeat0_any (n - (Lib.decDigits u).length) (by omega) w1)
  have hz : (⟨(Lib.decDigits u).toArray⟩ : ByteArray).size = (Lib.decDigits u).length := rfl
  obtain ⟨D, hD⟩ : ∃ D : ByteArray, D = ⟨(Lib.decDigits u).toArray⟩ := ⟨_, rfl⟩
  rw [← hD] at HI hz
  have HH : Hid ((⟨(List.replicate (n - (Lib.decDigits u).length) 48 ++ Lib.decDigits u).toArray⟩ : ByteArray) = ⟨(List.replicate (n - (Lib.decDigits u).length) 48).toArray⟩ ++ D) := Lib.hid (by
    rw [hD]
    symm
    apply ba_of
    rw [app_lst])
  rw [HH.out]
  rw [← hz] at HR hl ⊢
  obtain ⟨k, hk⟩ : ∃ k, k = n - D.size := ⟨_, rfl⟩
  rw [← hk] at HR ⊢
  have hk2 : (n : Int) - (D.size : Int) = (k : Int) := by omega
  have hrz : (⟨(List.replicate k 48).toArray⟩ : ByteArray).size = k := by show (List.replicate k (48 : UInt8)).length = k; simp
  generalize (⟨(List.replicate k 48).toArray⟩ : ByteArray) = Z at *
  have hz2 : Z.size ≤ 9 := by omega
  have hk3 : k ≤ 9 := by omega
  clear HH hD hp hz hu h10 hrz hk
  go_enter Tryd.func40, Tryd.ntmps40
  go_wp2_with (first | (go_at_call 46; with_reducible refine (HI.out _ hE).mono ?_; rintro e w3 ⟨rfl, gk, gos, rfl⟩) | (go_at_call 47; with_reducible refine (HR.out _).mono ?_; rintro e w4 ⟨rfl, rfl⟩))
  go_ret
  exact ⟨rfl, below_gr _ _ _⟩
end Go.Proofs.YtbficmdjblimfaaDoor
