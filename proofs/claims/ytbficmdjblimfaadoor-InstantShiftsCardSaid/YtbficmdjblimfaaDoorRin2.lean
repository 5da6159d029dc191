/-
  The reference's ReadInstant and ReadLocal by their contracts.
-/
import Derived.Test.YtbficmdjblimfaaDoorRre
import Derived.Test.YtbficmdjblimfaaDoorShw
import Derived.Test.YtbficmdjblimfaaDoorOfs
namespace Go.Proofs.YtbficmdjblimfaaDoor
open Go.RowKit
theorem rd_none (s : ByteArray) (hs : s.size ≤ 1000000) (h : Ins.read s.data.toList = none) : Hid (∀ w1, Calls Tryd.prog 15 #[.string s] w1 fun e w' => (∃ (dt tm zn : Bool) (y mo d h mi sc ns off : Int) (lt : Bool), e = .returned (.tuple #[.agg (tC dt tm zn y mo d h mi sc ns off lt), .bool false])) ∧ Below w1.heap.size w1 w') :=
  Lib.hid (fun w1 => (rread_any s w1 hs).mono fun e w' h2 => by
    unfold RetRr at h2
    rw [h] at h2
    exact h2)
theorem rd_some (s : ByteArray) (hs : s.size ≤ 1000000) (m : Ins.M) (h : Ins.read s.data.toList = some m) : Hid (∀ w1, Calls Tryd.prog 15 #[.string s] w1 fun e w' => e = .returned (.tuple #[tV m, .bool true]) ∧ Below w1.heap.size w1 w') :=
  Lib.hid (fun w1 => (rread_any s w1 hs).mono fun e w' h2 => by
    unfold RetRr at h2
    rw [h] at h2
    exact h2)
theorem below_al {w w5 : World} (h : Below w.heap.size w w5) (o : Obj) : Below w.heap.size w (w5.alloc o) := h.alloc h.size o
theorem below_al2 {w w5 w6 : World} (h : Below w.heap.size w w5) (o : Obj) (h2 : Below (w5.alloc o).heap.size (w5.alloc o) w6) : Below w.heap.size w w6 := (below_al h o).trans (h2.mono (below_al h o).size)
theorem below_tr {w w5 w6 : World} (h : Below w.heap.size w w5) (h2 : Below w5.heap.size w5 w6) : Below w.heap.size w w6 := h.trans (h2.mono h.size)
set_option maxRecDepth 100000 in
set_option maxHeartbeats 8000000 in
theorem rlocal_any (s : ByteArray) (w : World) (hs : s.size ≤ 1000000) :
    Calls Tryd.prog 14 #[.string s] w (RetR w (Ins.localOf s.data.toList)) := by
  obtain ⟨R, hR⟩ : ∃ R, R = Ins.localOf s.data.toList := ⟨_, rfl⟩
  rw [← hR]
  unfold Ins.localOf at hR
  cases hm : Ins.read s.data.toList with
  | none =>
    rw [hm] at hR
    replace hR : R = .bad 3 := hR
    subst hR
    have HR := rd_none s hs hm
    clear hm
    go_enter Tryd.func14, Tryd.ntmps14
    go_wp2_with (go_at_call 15; with_reducible refine (HR.out _).mono ?_; rintro e w5 ⟨⟨d0, d1, d2, d3, d4, d5, d6, d7, d8, d9, d10, d11, rfl⟩, hb5⟩)
    go_ret2
    exact ⟨rfl, below_al hb5 _⟩
  | some m =>
    have hrd := Ins.read_rd hm
    rw [hm] at hR
    replace hR : R = if m.z ≠ 0 then .bad 3 else if !m.ranges then .bad 13 else .ok m.text := hR
    have HR := rd_some s hs m hm
    clear hm
    have HI : Hid (∀ w1, Calls Tryd.prog 27 #[tV m] w1 fun e w' => e = .returned (.bool m.ranges) ∧ Below w1.heap.size w1 w') := Lib.hid (fun w1 => inrange_any m w1 hrd.y hrd.mo hrd.d)
    by_cases hz : m.z = 0
    · rw [if_neg (by rw [hz]; decide)] at hR
      have hzb : (m.z != 0) = false := by rw [hz]; decide
      have htl : m.tail = [] := by unfold Ins.M.tail; rw [if_pos hz]
      cases hb : m.ranges with
      | false =>
        rw [hb] at hR HI
        replace hR : R = .bad 13 := hR
        subst hR
        unfold tV at HR HI
        rw [hzb] at HR HI
        clear hrd hz hzb htl hb
        go_enter Tryd.func14, Tryd.ntmps14
        go_wp2_with (first | (go_at_call 15; with_reducible refine (HR.out _).mono ?_; rintro e w5 ⟨rfl, hb5⟩) | (go_at_call 27; with_reducible refine (HI.out _).mono ?_; rintro e w6 ⟨rfl, hb6⟩))
        go_ret2
        exact ⟨rfl, below_al2 hb5 _ hb6⟩
      | true =>
        rw [hb] at hR HI
        replace hR : R = .ok m.text := hR
        subst hR
        have hbd := Ins.ranges_bd hb
        have HS : Hid (∀ w1, Calls Tryd.prog 21 #[tV m] w1 fun e w' => e = .returned (.string ⟨m.text.toArray⟩) ∧ Below w1.heap.size w1 w') := Lib.hid (fun w1 => (show_any m w1 hrd.y hrd.mo hrd.d hrd.h hrd.mi hrd.s hrd.ns hrd.some_ (fun h => (hrd.notime h).2.2.2)).mono fun e w' h => by
          rw [htl, List.append_nil] at h
          exact h)
        have HRV : Hid (resV (.ok m.text) = (⟨m.text.toArray⟩, 0)) := Lib.hid rfl
        unfold RetR
        rw [HRV.out]
        generalize (⟨m.text.toArray⟩ : ByteArray) = TX at *
        unfold tV at HR HI HS
        rw [hzb] at HR HI HS
        clear hrd hz hzb htl hb hbd HRV
        go_enter Tryd.func14, Tryd.ntmps14
        go_wp2_with (first | (go_at_call 15; with_reducible refine (HR.out _).mono ?_; rintro e w5 ⟨rfl, hb5⟩) | (go_at_call 27; with_reducible refine (HI.out _).mono ?_; rintro e w6 ⟨rfl, hb6⟩; have x6 := (Blk.new w5 _ _).below hb6 (Blk.new w5 _ _).lt; have hb7 := below_al2 hb5 _ hb6) | ((with_reducible refine wpList_load_T rfl _ rfl w5.heap.size _ rfl ?_ x6 ?_); exact rfl) | (go_at_call 21; with_reducible refine (HS.out _).mono ?_; rintro e w8 ⟨rfl, hb8⟩))
        go_ret2
        exact ⟨rfl, below_tr hb7 hb8⟩
    · rw [if_pos hz] at hR
      subst hR
      have hzb : (m.z != 0) = true := by rw [bne_iff_ne]; exact hz
      unfold tV at HR
      rw [hzb] at HR
      clear hrd hz hzb HI
      go_enter Tryd.func14, Tryd.ntmps14
      go_wp2_with (go_at_call 15; with_reducible refine (HR.out _).mono ?_; rintro e w5 ⟨rfl, hb5⟩)
      go_ret2
      exact ⟨rfl, below_al hb5 _⟩
end Go.Proofs.YtbficmdjblimfaaDoor
