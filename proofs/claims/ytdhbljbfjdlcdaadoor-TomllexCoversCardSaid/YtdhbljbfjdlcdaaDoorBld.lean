/-
  strings.Builder's writing methods by contracts of my own, over lists of bytes (the shelf does not lay them at this program).
-/
import Derived.Test.YtdhbljbfjdlcdaaDoorKit8
import Derived.Test.YtdhbljbfjdlcdaaDoorChecked
import Derived.Lib.Builder
import Derived.Lib.AppendStr
import Derived.Lib.UnsafeStr
import Derived.Laws.Externs
namespace Go.Proofs.YtdhbljbfjdlcdaaDoor
open Go.RowKit
/-- The block b is a builder of the call's own (blocks from base on) that holds l; 'fresh' as long as nothing was written. -/
def Bld (w : World) (base b : Nat) (l : List UInt8) : Prop :=
  base ≤ b ∧ ∃ p v, (p = .pointer none ∨ p = .pointer (some ⟨b, 0, none⟩)) ∧ Blk w b 100 #[p, v] ∧ OwnB w base 5 v l
/-- .. and bears its own address. -/
def BldU (w : World) (base b : Nat) (l : List UInt8) : Prop :=
  base ≤ b ∧ ∃ v, Blk w b 100 #[.pointer (some ⟨b, 0, none⟩), v] ∧ OwnB w base 5 v l
theorem BldU.bld {w : World} {base b : Nat} {l : List UInt8} (h : BldU w base b l) : Bld w base b l := ⟨h.1, _, h.2.choose, .inr rfl, h.2.choose_spec⟩
theorem bldInfo : ∃ j, Tryd.prog.info? 100 = some j ∧ j.size = 2 := Option.map_eq_some_iff.1 (by kernel_rfl)
theorem bldLies : liesAt Tryd.prog Tryd.prog.depth 100 (2 / Tryd.prog.cellsOf 100) 0 100 1 = true := by kernel_rfl
theorem byteRow : ElemRow Tryd.prog 98 5 (.int .u8 0) 1 1 := ⟨Tryd.underlying98, by kernel_rfl, rfl, by decide⟩
/-- A store into one of the two cells. -/
theorem Blk.two {w : World} {b : Nat} {p v : Value} (h : Blk w b 100 #[p, v]) (x : Value) :
    Blk (w.setCell ⟨b, 0, none⟩ x) b 100 #[x, v] ∧ Blk (w.setCell ⟨b, 1, none⟩ x) b 100 #[p, x] := by
  unfold Blk at *
  constructor <;> simp [World.setCell, Array.getElem?_modify, h]
theorem OwnB.setBld {w : World} {base b : Nat} {p v v2 : Value} {l : List UInt8} (h : OwnB w base 5 v l) (hb : Blk w b 100 #[p, v2]) (j : Nat) (x : Value) : OwnB (w.setCell ⟨b, j, none⟩ x) base 5 v l := by
  refine ⟨h.1, ?_⟩
  rcases h.2 with hn | ⟨g, cap, cur, rfl, hbg, hg, r⟩
  · exact Or.inl hn
  · refine Or.inr ⟨g, cap, cur, rfl, hbg, ?_, r⟩
    have hne : b ≠ g := fun e => by
      subst e
      unfold Blk at hb
      rw [hb] at hg
      simp at hg
    simp [World.setCell, Array.getElem?_modify, hne, hg]
set_option maxHeartbeats 4000000 in
set_option maxRecDepth 100000 in
theorem copyCheck_any (base b : Nat) (l : List UInt8) (w : World) (h : Bld w base b l) :
    Calls Tryd.prog 88 #[.pointer (some ⟨b, 0, none⟩)] w fun e w' => e = .returned (.tuple #[]) ∧ BldU w' base b l ∧ Below base w w' := by
  obtain ⟨hB, p, v, hp, hk, hown⟩ := h
  obtain ⟨j, hj, hj2⟩ := bldInfo
  have c0 := hk.at_ 0
  have f0 : w.frozen? ⟨b, 0, none⟩ = false := hk.free 0
  have sh : w.shape? b = some (100, 2) := by unfold Blk at hk; simp [World.shape?, hk]
  rcases hp with rfl | rfl
  · have c0 : w.cell? ⟨b, 0, none⟩ = some (.pointer none) := c0
    go_enter Tryd.func88, Tryd.ntmps88
    go_wp2
    simp only [Lib.run_to_unsafe w ⟨b, 0, none⟩ Tryd.underlying97 Tryd.underlying137 hj (by omega) sh (by show 0 < 2; omega), Result.andThen]
    rw [Oper.upon_value]
    go_wp2
    simp only [run_callFunc_extern Tryd.func95 (by kernel_rfl) (by kernel_rfl) (by kernel_rfl) (e := Extern.AbiNoEscape.same) (by kernel_rfl), Lib.run_noEscape, Result.andThen]
    rw [Oper.upon_value]
    go_wp2
    simp only [Lib.run_from_unsafe w ⟨b, 0, none⟩ Tryd.underlying137 Tryd.underlying97 hj sh bldLies, Result.andThen]
    rw [Oper.upon_value]
    go_wp2
    go_end0
    exact ⟨rfl, ⟨hB, v, (hk.two _).1, hown.setBld hk 0 _⟩, (Below.refl _ _).setCell (p := ⟨b, 0, none⟩) hB _⟩
  · have c0 : w.cell? ⟨b, 0, none⟩ = some (.pointer (some ⟨b, 0, none⟩)) := c0
    go_enter Tryd.func88, Tryd.ntmps88
    go_wp2
    simp only [Lib.run_neq_ptr_same w _ Tryd.underlying97 hj]
    go_wp2
    go_end0
    exact ⟨rfl, ⟨hB, v, hk, hown⟩, Below.refl _ _⟩
set_option maxHeartbeats 4000000 in
set_option maxRecDepth 100000 in
theorem writeByte_any (base b : Nat) (l : List UInt8) (c : UInt8) (w : World) (h : Bld w base b l) (hl : l.length < 1099511627776) (hbw : base ≤ w.heap.size) :
    Calls Tryd.prog 69 #[.pointer (some ⟨b, 0, none⟩), .int .u8 (c.toNat : Int)] w fun e w' => e = .returned .nilIface ∧ BldU w' base b (l ++ [c]) ∧ Below base w w' := by
  go_enter Tryd.func69, Tryd.ntmps69
  go_wp2_with (go_at_call 88; refine (copyCheck_any base b l _ h).mono ?_)
  rintro e w1 ⟨rfl, ⟨hB, v, hk, hown⟩, hb1⟩
  have c1 : w1.cell? ⟨b, 1, none⟩ = some v := hk.at_ 1
  have hs1 := hb1.size
  go_wp2_with ((with_reducible refine wpList_push_byte rfl _ _ 98 rfl 5 byteRow base _ _ w1.heap.size 1 c ?_ ?_ (OwnB.alloc hown _) ?_ ?_ ?_ ?_); exact rfl; exact rfl; exact cell_one _ _ _; omega; (simp only [World.size_alloc]; omega))
  intro v2 w2 hown2 hgr hb2
  have hk2 := (hk.alloc (.cells #[.int .u8 (c.toNat : Int)] 5)).grownB (OwnB.alloc hown _) (by decide) hgr
  have d1 : w2.cell? ⟨b, 1, none⟩ = some v := hk2.at_ 1
  have f1 : w2.frozen? ⟨b, 1, none⟩ = false := hk2.free 1
  obtain ⟨g, cap, rfl⟩ : ∃ g cap, v2 = .slice (some ⟨g, 0, none⟩) (l ++ [c]).length cap := by
    rcases hown2.form with ⟨_, h0⟩ | ⟨g, cap, hv, _⟩
    · simp at h0
    · exact ⟨g, cap, hv⟩
  generalize (l ++ [c]).length = n2 at *
  go_wp2
  go_ret
  exact ⟨rfl, ⟨hB, _, (hk2.two _).2, hown2.setBld hk2 1 _⟩, ((hb1.alloc (by omega) _).trans hb2).setCell (p := ⟨b, 1, none⟩) hB _⟩
set_option maxHeartbeats 4000000 in
set_option maxRecDepth 100000 in
theorem writeString_any (base b : Nat) (l : List UInt8) (s : ByteArray) (w : World) (h : Bld w base b l) (hl : l.length + s.size < 1099511627776) (hbw : base ≤ w.heap.size) :
    Calls Tryd.prog 66 #[.pointer (some ⟨b, 0, none⟩), .string s] w fun e w' => e = .returned (.tuple #[.int .i64 s.size, .nilIface]) ∧ BldU w' base b (l ++ s.data.toList) ∧ Below base w w' := by
  obtain ⟨i0, hi, hz0, hz1, hz2⟩ := info_parts byteRow.row
  go_enter Tryd.func66, Tryd.ntmps66
  go_wp2_with (go_at_call 88; refine (copyCheck_any base b l _ h).mono ?_)
  rintro e w1 ⟨rfl, ⟨hB, v, hk, hown⟩, hb1⟩
  have c1 : w1.cell? ⟨b, 1, none⟩ = some v := hk.at_ 1
  have hs1 := hb1.size
  go_wp2_with (at_builtin; refine Lib.wpList_append_own_string _ rfl _ _ 98 9 rfl base 5 i0 Tryd.underlying98 Tryd.underlying9 hi hz0 hz1 hz2 _ _ _ rfl hown s rfl ?_ ?_ ?_ ?_)
  · unfold maxLen; omega
  · omega
  · omega
  intro v2 w2 hown2 hgr _
  have hk2 := hk.grownB hown (by decide) hgr
  have hb2 : Below base w w2 := hb1.grown hgr (by omega) (fun k hk => (World.ownsRow.lt hown k hk).1)
  have hownB : OwnB w2 base 5 v2 (l ++ s.data.toList) := by
    unfold OwnB
    rw [List.length_append, size_toList]
    have e : byteVals (l ++ s.data.toList) = byteVals l ++ Lib.strCells s := by unfold byteVals Lib.strCells; rw [List.map_append]
    rw [e]
    exact hown2
  clear hown2
  have d1 : w2.cell? ⟨b, 1, none⟩ = some v := hk2.at_ 1
  have f1 : w2.frozen? ⟨b, 1, none⟩ = false := hk2.free 1
  obtain ⟨ao, n2, cap, rfl⟩ : ∃ ao n2 cap, v2 = .slice ao n2 cap := by
    rcases hownB.form with ⟨hv, h0⟩ | ⟨g, cap, hv, _⟩
    · exact ⟨_, _, _, hv⟩
    · exact ⟨_, _, _, hv⟩
  go_wp2
  go_ret2
  exact ⟨rfl, ⟨hB, _, (hk2.two _).2, hownB.setBld hk2 1 _⟩, hb2.setCell (p := ⟨b, 1, none⟩) hB _⟩
end Go.Proofs.YtdhbljbfjdlcdaaDoor
