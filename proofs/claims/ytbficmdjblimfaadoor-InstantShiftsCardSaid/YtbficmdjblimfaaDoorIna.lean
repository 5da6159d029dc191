/-
  instant.Instant and instant.Local by their contracts.
-/
import Derived.Test.YtbficmdjblimfaaDoorRead
import Derived.Test.YtbficmdjblimfaaDoorRin3
namespace Go.Proofs.YtbficmdjblimfaaDoor
open Go.RowKit
theorem ird_none (s : ByteArray) (hs : s.size ≤ 1000000) (h : Ins.read s.data.toList = none) : Hid (∀ w1, Calls Tryd.prog 24 #[.string s] w1 fun e w' => (∃ (sh : Int) (f : Nat → Int) (ns z : Int), e = .returned (.tuple #[.agg (momC sh f ns z), .bool false])) ∧ Below w1.heap.size w1 w') :=
  Lib.hid (fun w1 => (read_any s w1 hs).mono fun e w' h2 => by
    unfold RetRd at h2
    rw [h] at h2
    exact h2)
theorem ird_some (s : ByteArray) (hs : s.size ≤ 1000000) (m : Ins.M) (h : Ins.read s.data.toList = some m) : Hid (∀ w1, Calls Tryd.prog 24 #[.string s] w1 fun e w' => e = .returned (.tuple #[momV m, .bool true]) ∧ Below w1.heap.size w1 w') :=
  Lib.hid (fun w1 => (read_any s w1 hs).mono fun e w' h2 => by
    unfold RetRd at h2
    rw [h] at h2
    exact h2)
def momA (m : Ins.M) : Array Value := #[.int .i64 (shape m : Int), .int .i64 (m.y : Int), .int .i64 (m.mo : Int), .int .i64 (m.d : Int), .int .i64 (m.h : Int), .int .i64 (m.mi : Int), .int .i64 (m.s : Int), .int .i64 (m.zh : Int), .int .i64 (m.zm : Int), .int .i64 (m.ns : Int), .int .u8 (m.z.toNat : Int)]
theorem momV_A (m : Ins.M) : momV m = .agg (momA m) := rfl
theorem z_eq (m : Ins.M) (h : m.z = 0) : ((m.z.toNat : Int) == 0) = true := by rw [h]; rfl
theorem z_ne (m : Ins.M) (h : m.z ≠ 0) : ((m.z.toNat : Int) == 0) = false := byte_ne 0 h
section
variable {w : World} {ops : Array Oper} {rest : List Oper} {o : Oper} {a : Act} {Q : Exit → Act → World → Prop}
theorem wpList_load_momA (hgd : o.guard = none) (x : Operand) (ho : o.op = .load 47 x) (g : Nat) (m : Ins.M) (hx : a.eval x = .pointer (some ⟨g, 0, none⟩)) (hg : Blk w g 47 (momA m))
    (h : wpList Tryd.prog ops Q rest (a.put o.dst (momV m)) w) : wpList Tryd.prog ops Q (o :: rest) a w :=
  wpList_load_row hgd _ x ho g hx _ _ _ _ hg Tryd.underlying47 rfl momRow h
end
set_option maxRecDepth 100000 in
set_option maxHeartbeats 8000000 in
theorem local_any (s : ByteArray) (w : World) (hs : s.size ≤ 1000000) (hE : EnvI w) :
    Calls Tryd.prog 13 #[.string s] w (RetR w (Ins.localOf s.data.toList)) := by
  obtain ⟨R, hR⟩ : ∃ R, R = Ins.localOf s.data.toList := ⟨_, rfl⟩
  rw [← hR]
  unfold Ins.localOf at hR
  cases hm : Ins.read s.data.toList with
  | none =>
    rw [hm] at hR
    replace hR : R = .bad 3 := hR
    subst hR
    have HR := ird_none s hs hm
    unfold momC at HR
    clear hm hE
    go_enter Tryd.func13, Tryd.ntmps13
    go_wp2_with (go_at_call 24; with_reducible refine (HR.out _).mono ?_; rintro e w5 ⟨⟨sh, f, ns, z, rfl⟩, hb5⟩)
    go_ret2
    exact ⟨rfl, below_al hb5 _⟩
  | some m =>
    have hrd := Ins.read_rd hm
    rw [hm] at hR
    replace hR : R = if m.z ≠ 0 then .bad 3 else if !m.ranges then .bad 13 else .ok m.text := hR
    have HR := ird_some s hs m hm
    clear hm
    have HI : Hid (∀ w1, Calls Tryd.prog 25 #[momV m] w1 fun e w' => e = .returned (.bool m.ranges) ∧ Below w1.heap.size w1 w') := Lib.hid (fun w1 => ranges_any m w1 hrd.y hrd.mo hrd.d hrd.some_)
    by_cases hz : m.z = 0
    · rw [if_neg (by rw [hz]; decide)] at hR
      have hzb := z_eq m hz
      have hzc : ((m.z.toNat : Int) != 0) = false := by unfold bne; rw [hzb]; rfl
      clear hz
      cases hb : m.ranges with
      | false =>
        rw [hb] at hR HI
        replace hR : R = .bad 13 := hR
        subst hR
        unfold momV at HR HI
        clear hrd hb hE
        go_enter Tryd.func13, Tryd.ntmps13
        go_wp2_with (first | (go_at_call 24; with_reducible refine (HR.out _).mono ?_; rintro e w5 ⟨rfl, hb5⟩) | (go_at_call 25; with_reducible refine (HI.out _).mono ?_; rintro e w6 ⟨rfl, hb6⟩))
        go_ret2
        exact ⟨rfl, below_al2 hb5 _ hb6⟩
      | true =>
        rw [hb] at hR HI
        replace hR : R = .ok m.text := hR
        subst hR
        have HS : Hid (∀ w1, Below w.heap.size w w1 → Calls Tryd.prog 28 #[momV m] w1 fun e w' => e = .returned (.string ⟨m.text.toArray⟩) ∧ Below w1.heap.size w1 w') := Lib.hid (fun w1 hb1 => text_any m w1 hrd.y hrd.mo hrd.d hrd.h hrd.mi hrd.s hrd.ns hrd.some_ (hE.below hb1))
        have HRV : Hid (resV (.ok m.text) = (⟨m.text.toArray⟩, 0)) := Lib.hid rfl
        unfold RetR
        rw [HRV.out]
        generalize (⟨m.text.toArray⟩ : ByteArray) = TX at *
        unfold momV at HR HI HS
        clear hrd hb HRV hE
        go_enter Tryd.func13, Tryd.ntmps13
        go_wp2_with (first | (go_at_call 24; with_reducible refine (HR.out _).mono ?_; rintro e w5 ⟨rfl, hb5⟩) | (go_at_call 25; with_reducible refine (HI.out _).mono ?_; rintro e w6 ⟨rfl, hb6⟩; have x6 : Blk w6 w5.heap.size 47 (momA m) := (Blk.new w5 _ (momA m)).below hb6 (Blk.new w5 _ _).lt; have hb7 := below_al2 hb5 _ hb6) | ((with_reducible refine wpList_load_momA rfl _ rfl w5.heap.size m ?_ x6 ?_); exact rfl) | (go_at_call 28; refine (HS.out _ hb7).mono ?_; rintro e w8 ⟨rfl, hb8⟩))
        go_ret2
        exact ⟨rfl, below_tr hb7 hb8⟩
    · rw [if_pos hz] at hR
      subst hR
      have hzb := z_ne m hz
      have hzc : ((m.z.toNat : Int) != 0) = true := by unfold bne; rw [hzb]; rfl
      unfold momV at HR
      clear hrd hz HI hE
      go_enter Tryd.func13, Tryd.ntmps13
      go_wp2_with (go_at_call 24; with_reducible refine (HR.out _).mono ?_; rintro e w5 ⟨rfl, hb5⟩)
      go_ret2
      exact ⟨rfl, below_al hb5 _⟩
end Go.Proofs.YtbficmdjblimfaaDoor
