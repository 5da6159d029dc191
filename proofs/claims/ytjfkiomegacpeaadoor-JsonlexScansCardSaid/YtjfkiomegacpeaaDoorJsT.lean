/-
  decimal's limit, sign, digits, coef, text, result by their contracts: what comes out is of little matter.
-/
import Derived.Test.YtjfkiomegacpeaaDoorJsN
import Derived.Deep.RegionHeldLaw
import Derived.Lib.LaidTab
import Derived.Lib.ItoaLen
namespace Go.Proofs.YtjfkiomegacpeaaDoor
open Go.RowKit
def numV (neg : Bool) (ao : Option Addr) (k cap : Nat) (x : Int) : Value := .agg #[.bool neg, .slice ao k cap, .int .i64 x]
set_option maxRecDepth 100000 in
set_option maxHeartbeats 4000000 in
theorem limit_any (neg : Bool) (ao : Option Addr) (k cap : Nat) (x : Int) (w : World) (hk : k ≤ 1099511627) :
    Calls Tryd.prog 71 #[.agg #[.bool neg, .slice ao k cap, .int .i64 x]] w fun e w' => (∃ c : Int, e = .returned (.int .i64 c) ∧ (c = 6 ∨ c = 2 ∨ (c = 0 ∧ k ≤ 400 ∧ -2000 ≤ x ∧ x ≤ 2000))) ∧ Below w.heap.size w w' := by
  go_enter Tryd.func71, Tryd.ntmps71
  by_cases hk4 : 400 < k
  · have f1 : 400 < (k : Int) := by omega
    go_wp2_with fail
    go_ret
    exact ⟨⟨6, rfl, Or.inl rfl⟩, below_alloc _⟩
  · have f1 : ¬ (400 < (k : Int)) := by omega
    by_cases hx : x < -2000
    · go_wp2_with fail
      go_ret
      exact ⟨⟨2, rfl, Or.inr (Or.inl rfl)⟩, below_alloc _⟩
    · by_cases hy : 2000 < x
      · go_wp2_with fail
        go_ret
        exact ⟨⟨2, rfl, Or.inr (Or.inl rfl)⟩, below_alloc _⟩
      · go_wp2_with fail
        go_ret
        exact ⟨⟨0, rfl, by omega⟩, below_alloc _⟩
set_option maxRecDepth 100000 in
set_option maxHeartbeats 4000000 in
theorem sign_any (neg : Bool) (ao : Option Addr) (k cap : Nat) (x : Int) (w : World) :
    Calls Tryd.prog 76 #[.agg #[.bool neg, .slice ao k cap, .int .i64 x]] w fun e w' => (∃ s : ByteArray, e = .returned (.string s) ∧ s.size ≤ 1) ∧ Below w.heap.size w w' := by
  go_enter Tryd.func76, Tryd.ntmps76
  cases neg with
  | true =>
    go_wp2_with fail
    go_ret
    exact ⟨⟨_, rfl, by decide⟩, below_alloc _⟩
  | false =>
    go_wp2_with fail
    go_ret
    exact ⟨⟨_, rfl, by decide⟩, below_alloc _⟩
def lst (n : Nat) (f : Nat → Int) : List UInt8 := (List.range n).map fun j => UInt8.ofNat (f j).toNat
theorem lst_len (n : Nat) (f : Nat → Int) : (lst n f).length = n := by simp [lst]
theorem lst_arr (n : Nat) (f : Nat → Int) (h : ∀ j, 0 ≤ f j ∧ f j ≤ 255) : arrOf .u8 n f = arrOf .u8 n (byteAt (lst n f)) := by
  refine arr_congr .u8 n _ _ fun j hj => ?_
  have e : (lst n f).getD j 0 = UInt8.ofNat (f j).toNat := by simp [lst, List.getD, hj]
  have := h j
  unfold byteAt
  rw [e, UInt8.toNat_ofNat', Nat.mod_eq_of_lt (by omega)]
  omega
set_option maxRecDepth 100000 in
set_option maxHeartbeats 4000000 in
theorem digits_any (neg : Bool) (ao : Option Addr) (k cap : Nat) (x : Int) (w : World) (hk : k ≤ 1099511627) (hr : RdB w ao k) :
    Calls Tryd.prog 77 #[.agg #[.bool neg, .slice ao k cap, .int .i64 x]] w fun e w' => (∃ s : ByteArray, e = .returned (.string s) ∧ s.size = k) ∧ Below w.heap.size w w' := by
  have HR := Lib.hid hr
  clear hr
  go_enter Tryd.func77, Tryd.ntmps77
  go_wp2_with ((with_reducible refine wpList_make_full_bytes rfl (.tmp 8) (.tmp 8) 39 rfl 5 byteRowJ .i64 .i64 _ _ k ?_ ?_ rfl rfl ?_ ?_); exact rfl; exact rfl; omega)
  intro w1 hB1 hb1
  have hX : Blk (w.alloc (.cells #[.bool neg, .slice ao k cap, .int .i64 x] 99)) w.heap.size 99 #[.bool neg, .slice ao k cap, .int .i64 x] := Blk.new _ _ _
  have hb0 := below_alloc (w := w) (.cells #[.bool neg, .slice ao k cap, .int .i64 x] 99)
  have hX1 := hX.below hb1 (by omega)
  have x1 : w1.cell? ⟨w.heap.size, 1, none⟩ = some (.slice ao k cap) := hX1.at_ 1
  have hb01 := hb0.trans (hb1.mono (by omega))
  clear hb1 hb0 hX hX1
  have HR1 := Lib.hid (HR.out.keep hb01)
  go_wp2_with fail
  go_loopg [13] k (fun gg i wr => ∃ (j : Nat) (f : Nat → Int), j + gg = k ∧ i = .int .i64 j ∧ Blk wr (w.heap.size + 1) 5 (arrOf .u8 k f) ∧ (∀ j, 0 ≤ f j ∧ f j ≤ 255) ∧ Below w.heap.size w wr)
  case atStart => exact ⟨0, fun _ => 0, by omega, rfl, hB1, fun j => ⟨Int.le_refl _, by show (0 : Int) ≤ 255; omega⟩, hb01⟩
  case round =>
    clear hB1
    obtain ⟨j, f, hg, rfl, hB, hf, hbr⟩ := hrel
    by_cases hj : j < k
    · obtain ⟨g, off, rfl, hgl, hcl⟩ := HR.out (by omega)
      obtain ⟨v, hv, hv0, hv1⟩ := hcl j hj
      rw [← hbr.cell (p := ⟨g, off + j, none⟩) hgl] at hv
      have cn := hB.cell (j := j) hj
      have fn := hB.free j
      have HF := Lib.hid hf
      clear hcl hf x1
      go_wp2_with fail
      go_roundg (k - (j + 1))
      case measure => omega
      case rel =>
        refine ⟨j + 1, upd f j ((48 + v) % 256), by omega, by go_num, hB.set j _, fun i => ?_, hbr.setCell (p := ⟨w.heap.size + 1, j, none⟩) (by show w.heap.size ≤ w.heap.size + 1; omega) _⟩
        unfold upd
        split
        · omega
        · exact HF.out i
    · rw [lst_arr k f hf] at hB
      have hll := lst_len k f
      generalize lst k f = l at *
      clear x1 hf
      go_wp2_with ((with_reducible refine wpList_blk_string rfl 39 9 (.tmp 24) rfl 5 Tryd.underlying39 Tryd.underlying5 Tryd.underlying9 (w.heap.size + 1) k k 5 l ?_ hll hB ?_); exact rfl)
      go_ret
      exact ⟨⟨⟨l.toArray⟩, rfl, by rw [← size_toList]; exact hll⟩, hbr⟩
theorem numS {w1 w' : World} {b : Nat} {neg : Bool} {ao : Option Addr} {k cap : Nat} {x : Int} (h : Blk w1 b 99 #[.bool neg, .slice ao k cap, .int .i64 x]) (hb : Below w1.heap.size w1 w') :
    w'.cell? ⟨b, 0, none⟩ = some (.bool neg) ∧ w'.cell? ⟨b, 1, none⟩ = some (.slice ao k cap) ∧ w'.cell? ⟨b, 2, none⟩ = some (.int .i64 x) ∧ Below w1.heap.size w1 w' := by
  have h2 := h.below hb h.lt
  exact ⟨h2.at_ 0, h2.at_ 1, h2.at_ 2, hb⟩
theorem keepW {w w' W : World} (hb : Below w.heap.size w w') (h : Below W.heap.size W w) : Below W.heap.size W w' := h.trans (hb.mono h.size)
/-- The box of a number in a region that draws its order: what a region's loads read. -/
def NumAt (b : Nat) (neg : Bool) (ao : Option Addr) (k cap : Nat) (x : Int) (w : World) : Prop := w.cell? ⟨b, 0, none⟩ = some (.bool neg) ∧ w.cell? ⟨b, 1, none⟩ = some (.slice ao k cap) ∧ w.cell? ⟨b, 2, none⟩ = some (.int .i64 x)
set_option maxRecDepth 100000 in
set_option maxHeartbeats 4000000 in
theorem coef_any (neg : Bool) (ao : Option Addr) (k cap : Nat) (x : Int) (w : World) (hk : k ≤ 1099511627) (hr : RdB w ao k) :
    Calls Tryd.prog 74 #[.agg #[.bool neg, .slice ao k cap, .int .i64 x]] w fun e w' => (∃ s : ByteArray, e = .returned (.string s) ∧ s.size ≤ k + 1) ∧ Below w.heap.size w w' := by
  have HD := Lib.hid (fun w1 (hb : Below w.heap.size w w1) => digits_any neg ao k cap x w1 hk (hr.keep hb))
  have HS := Lib.hid (fun w1 => sign_any neg ao k cap x w1)
  clear hr
  go_enter Tryd.func74, Tryd.ntmps74
  by_cases h0 : k = 0
  · subst h0
    go_wp2_with fail
    go_ret
    exact ⟨⟨_, rfl, by decide⟩, below_alloc _⟩
  · have hk0 : ((k : Int) == 0) = false := by rw [beq_eq_false_iff_ne]; omega
    go_wp2_with fail
    have hX : Blk (w.alloc (.cells #[.bool neg, .slice ao k cap, .int .i64 x] 99)) w.heap.size 99 #[.bool neg, .slice ao k cap, .int .i64 x] := Blk.new _ _ _
    have hb0 := below_alloc (w := w) (.cells #[.bool neg, .slice ao k cap, .int .i64 x] 99)
    generalize w.alloc (.cells #[.bool neg, .slice ao k cap, .int .i64 x] 99) = w1 at *
    have HD1 := Lib.hid (fun w2 (hb : Below w1.heap.size w1 w2) => HD.out w2 (hb0.trans (hb.mono hb0.size)))
    clear HD
    go_region_held_law (fun w' => w'.cell? ⟨w.heap.size, 0, none⟩ = some (.bool neg) ∧ w'.cell? ⟨w.heap.size, 1, none⟩ = some (.slice ao k cap) ∧ w'.cell? ⟨w.heap.size, 2, none⟩ = some (.int .i64 x) ∧ Below w1.heap.size w1 w')
      (first | assumption | exact numS hX (Below.refl _ _).drew | exact numS hX ((Below.refl _ _).drew.trans hbw) | exact numS hX (keepW hbw (And.right (And.right (And.right (by assumption))))))
      (first
        | (go_at_call 76; refine (HS.out _).mono ?_; rintro e w' ⟨⟨sb, rfl, hsb⟩, hbw⟩)
        | (go_at_call 77; refine (HD1.out _ (by first | exact (Below.refl _ _).drew | exact And.right (And.right (And.right (by assumption))) | exact (Below.refl _ _).drew.trans (by assumption))).mono ?_; rintro e w' ⟨⟨db, rfl, hdb⟩, hbw⟩))
    all_goals
      go_wp2_with fail
      go_ret
      exact ⟨⟨_, rfl, by rw [ByteArray.size_append]; omega⟩, hb0.trans (Below.mono (And.right (And.right (And.right (by assumption : w'.cell? ⟨w.heap.size, 0, none⟩ = some (.bool neg) ∧ w'.cell? ⟨w.heap.size, 1, none⟩ = some (.slice ao k cap) ∧ w'.cell? ⟨w.heap.size, 2, none⟩ = some (.int .i64 x) ∧ Below w1.heap.size w1 w')))) hb0.size)⟩
theorem below_gr (w : World) (k : Nat) (os : Array Obj) : Below w.heap.size w (Go.Sort.grow (w.drewN k) os) := by
  refine ⟨rfl, rfl, rfl, by simp [Go.Sort.grow, World.drewN], fun i hi => ?_⟩
  show (w.heap ++ os)[i]? = w.heap[i]?
  exact Array.getElem?_append_left hi
set_option maxRecDepth 100000 in
set_option maxHeartbeats 4000000 in
theorem text_any (neg : Bool) (ao : Option Addr) (k cap : Nat) (x : Int) (w : World) (hk : k ≤ 400) (hx : -2000 ≤ x) (hx2 : x ≤ 2000) (hr : RdB w ao k) (hT : ∀ w', Below w.heap.size w w' → Lib.TabIs Tryd.prog w' "internal/strconv.uint64pow10" .u64 Lib.pow10Tab) :
    Calls Tryd.prog 72 #[.agg #[.bool neg, .slice ao k cap, .int .i64 x]] w fun e w' => (∃ s : ByteArray, e = .returned (.string s)) ∧ Below w.heap.size w w' := by
  have HC := Lib.hid (fun w1 (hb : Below w.heap.size w w1) => coef_any neg ao k cap x w1 (by omega) (hr.keep hb))
  have HI : Hid (∀ w1, Below w.heap.size w w1 → Calls Tryd.prog 75 #[.int .i64 x] w1 fun e w' => (∃ s : ByteArray, e = .returned (.string s) ∧ s.size ≤ 21) ∧ Below w1.heap.size w1 w') := Lib.hid (fun w1 hb => (Tryd.strconv_Itoa x (by omega) (by omega) w1 (hT w1 hb)).mono fun e w' ⟨he, q, os, hw⟩ => ⟨⟨_, he, by rw [← size_toList]; exact Lib.itoa_length_le x (by omega) (by omega)⟩, by rw [hw]; exact below_gr _ _ _⟩)
  clear hr hT
  go_enter Tryd.func72, Tryd.ntmps72
  go_wp2_with fail
  have hX : Blk (w.alloc (.cells #[.bool neg, .slice ao k cap, .int .i64 x] 99)) w.heap.size 99 #[.bool neg, .slice ao k cap, .int .i64 x] := Blk.new _ _ _
  have hb0 := below_alloc (w := w) (.cells #[.bool neg, .slice ao k cap, .int .i64 x] 99)
  generalize w.alloc (.cells #[.bool neg, .slice ao k cap, .int .i64 x] 99) = w1 at *
  have HC1 := Lib.hid (fun w2 (hb : Below w1.heap.size w1 w2) => HC.out w2 (hb0.trans (hb.mono hb0.size)))
  have HI1 := Lib.hid (fun w2 (hb : Below w1.heap.size w1 w2) => HI.out w2 (hb0.trans (hb.mono hb0.size)))
  clear HC HI
  go_region_held_law (fun w' => w'.cell? ⟨w.heap.size, 0, none⟩ = some (.bool neg) ∧ w'.cell? ⟨w.heap.size, 1, none⟩ = some (.slice ao k cap) ∧ w'.cell? ⟨w.heap.size, 2, none⟩ = some (.int .i64 x) ∧ Below w1.heap.size w1 w')
    (first | assumption | exact numS hX (Below.refl _ _).drew | exact numS hX ((Below.refl _ _).drew.trans hbw) | exact numS hX (keepW hbw (And.right (And.right (And.right (by assumption))))))
    (first
      | (go_at_call 74; refine (HC1.out _ (by first | exact (Below.refl _ _).drew | exact And.right (And.right (And.right (by assumption))) | exact (Below.refl _ _).drew.trans (by assumption))).mono ?_; rintro e w' ⟨⟨sb, rfl, hsb⟩, hbw⟩)
      | (go_at_call 75; refine (HI1.out _ (by first | exact (Below.refl _ _).drew | exact And.right (And.right (And.right (by assumption))) | exact (Below.refl _ _).drew.trans (by assumption))).mono ?_; rintro e w' ⟨⟨db, rfl, hdb⟩, hbw⟩))
  all_goals
    go_wp2_with fail
    go_ret
    exact ⟨⟨_, rfl⟩, hb0.trans (Below.mono (And.right (And.right (And.right (by assumption : w'.cell? ⟨w.heap.size, 0, none⟩ = some (.bool neg) ∧ w'.cell? ⟨w.heap.size, 1, none⟩ = some (.slice ao k cap) ∧ w'.cell? ⟨w.heap.size, 2, none⟩ = some (.int .i64 x) ∧ Below w1.heap.size w1 w')))) hb0.size)⟩
set_option maxRecDepth 100000 in
set_option maxHeartbeats 4000000 in
theorem result_any (neg : Bool) (ao : Option Addr) (k cap : Nat) (x : Int) (w : World) (hk : k ≤ 1099511627) (hr : RdB w ao k) (hT : ∀ w', Below w.heap.size w w' → Lib.TabIs Tryd.prog w' "internal/strconv.uint64pow10" .u64 Lib.pow10Tab) :
    Calls Tryd.prog 62 #[.agg #[.bool neg, .slice ao k cap, .int .i64 x]] w fun e w' => (∃ (s : ByteArray) (c : Int), e = .returned (.tuple #[.string s, .int .i64 c]) ∧ c ≠ 3) ∧ Below w.heap.size w w' := by
  have HL := Lib.hid (fun w1 => limit_any neg ao k cap x w1 hk)
  have HX := Lib.hid (fun w1 (hb : Below w.heap.size w w1) (h1 : k ≤ 400) (h2 : -2000 ≤ x) (h3 : x ≤ 2000) => text_any neg ao k cap x w1 h1 h2 h3 (hr.keep hb) (fun w' hb' => hT w' (hb.trans (hb'.mono hb.size))))
  clear hr hT
  go_enter Tryd.func62, Tryd.ntmps62
  go_wp2_with fail
  have hX : Blk (w.alloc (.cells #[.bool neg, .slice ao k cap, .int .i64 x] 99)) w.heap.size 99 #[.bool neg, .slice ao k cap, .int .i64 x] := Blk.new _ _ _
  have hb0 := below_alloc (w := w) (.cells #[.bool neg, .slice ao k cap, .int .i64 x] 99)
  refine (HL.out _).mono ?_
  rintro e w2 ⟨⟨c, rfl, hc⟩, hb2⟩
  have hX2 := hX.below hb2 hX.lt
  have hb02 := hb0.trans (hb2.mono hb0.size)
  have x0 : w2.cell? ⟨w.heap.size, 0, none⟩ = some (.bool neg) := hX2.at_ 0
  have x1 : w2.cell? ⟨w.heap.size, 1, none⟩ = some (.slice ao k cap) := hX2.at_ 1
  have x2 : w2.cell? ⟨w.heap.size, 2, none⟩ = some (.int .i64 x) := hX2.at_ 2
  clear hX hX2 hb2 hb0
  rcases hc with rfl | rfl | ⟨rfl, h1, h2, h3⟩
  · go_wp2_with fail
    go_ret2
    exact ⟨⟨_, 6, rfl, by decide⟩, hb02⟩
  · go_wp2_with fail
    go_ret2
    exact ⟨⟨_, 2, rfl, by decide⟩, hb02⟩
  · go_wp2_with fail
    refine (HX.out w2 hb02 h1 h2 h3).mono ?_
    rintro e w3 ⟨⟨sb, rfl⟩, hb3⟩
    go_wp2_with fail
    go_ret2
    exact ⟨⟨_, 0, rfl, by decide⟩, hb02.trans (hb3.mono hb02.size)⟩
end Go.Proofs.YtjfkiomegacpeaaDoor
