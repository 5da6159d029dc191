/-
  strings.Builder's copyCheck, WriteRune and String over lists of bytes, by contracts of my own.
-/
import Derived.Test.YtjfkiomegacpeaaDoorKit8
import Derived.Test.YtjfkiomegacpeaaDoorChecked
import Derived.Test.YtjfkiomegacpeaaDoorShelf
import Derived.Test.YtjfkiomegacpeaaDoorJs0
import Derived.Lib.Builder
import Derived.Lib.AppendStr
import Derived.Lib.UnsafeStr
import Derived.Laws.Externs
namespace Go.Proofs.YtjfkiomegacpeaaDoor
open Go.RowKit
/-- The block b is a builder of the call's own (blocks from base on) that holds l; 'fresh' as long as nothing was written. -/
def Bld (w : World) (base b : Nat) (l : List UInt8) : Prop :=
  base ≤ b ∧ ∃ p v, (p = .pointer none ∨ p = .pointer (some ⟨b, 0, none⟩)) ∧ Blk w b 77 #[p, v] ∧ OwnB w base 5 v l
/-- .. and bears its own address. -/
def BldU (w : World) (base b : Nat) (l : List UInt8) : Prop :=
  base ≤ b ∧ ∃ v, Blk w b 77 #[.pointer (some ⟨b, 0, none⟩), v] ∧ OwnB w base 5 v l
theorem BldU.bld {w : World} {base b : Nat} {l : List UInt8} (h : BldU w base b l) : Bld w base b l := ⟨h.1, _, h.2.choose, .inr rfl, h.2.choose_spec⟩
theorem bldInfo : ∃ j, Tryd.prog.info? 77 = some j ∧ j.size = 2 := Option.map_eq_some_iff.1 (by kernel_rfl)
theorem bldLies : liesAt Tryd.prog Tryd.prog.depth 77 (2 / Tryd.prog.cellsOf 77) 0 77 1 = true := by kernel_rfl
theorem byteRow : ElemRow Tryd.prog 39 5 (.int .u8 0) 1 1 := ⟨Tryd.underlying39, by kernel_rfl, rfl, by decide⟩
/-- A store into one of the two cells. -/
theorem Blk.two {w : World} {b : Nat} {p v : Value} (h : Blk w b 77 #[p, v]) (x : Value) :
    Blk (w.setCell ⟨b, 0, none⟩ x) b 77 #[x, v] ∧ Blk (w.setCell ⟨b, 1, none⟩ x) b 77 #[p, x] := by
  unfold Blk at *
  constructor <;> simp [World.setCell, Array.getElem?_modify, h]
theorem OwnB.setBld {w : World} {base b : Nat} {p v v2 : Value} {l : List UInt8} (h : OwnB w base 5 v l) (hb : Blk w b 77 #[p, v2]) (j : Nat) (x : Value) : OwnB (w.setCell ⟨b, j, none⟩ x) base 5 v l := by
  refine ⟨h.1, ?_⟩
  rcases h.2 with hn | ⟨g, cap, cur, rfl, hbg, hg, r⟩
  · exact Or.inl hn
  · refine Or.inr ⟨g, cap, cur, rfl, hbg, ?_, r⟩
    have hne : b ≠ g := fun e => by
      subst e
      unfold Blk at hb
      rw [hb] at hg
      simp at hg
    simp [World.setCell, Array.getElem?_modify, hne, hg]
/-- A string's iterators stand as they stood. -/
def IterKept (w w' : World) : Prop := ∀ (k : Nat) (s : ByteArray) (p : Nat), w.heap[k]? = some (.stringIter s p) → w'.heap[k]? = some (.stringIter s p)
theorem IterKept.refl (w : World) : IterKept w w := fun _ _ _ h => h
theorem IterKept.trans {a b c : World} (h1 : IterKept a b) (h2 : IterKept b c) : IterKept a c := fun k s p h => h2 k s p (h1 k s p h)
theorem IterKept.setCell (w : World) (a : Addr) (v : Value) : IterKept w (w.setCell a v) := fun k s p h => by
  unfold World.setCell
  simp only [Array.getElem?_modify]
  by_cases e : a.block = k
  · rw [if_pos e, h]; rfl
  · rw [if_neg e]; exact h
theorem IterKept.alloc (w : World) (o : Obj) : IterKept w (w.alloc o) := fun k s p h => by
  have hk : k < w.heap.size := (Array.getElem?_eq_some_iff.1 h).1
  rw [Below.heap_alloc w o k hk]; exact h
theorem IterKept.grown {w w' : World} {base : Nat} {v : Value} {l : List UInt8} (h : OwnB w base 5 v l) (hg : w.grownBy w' v.ownBlock) : IterKept w w' := fun k s p hk => by
  have hlt : k < w.heap.size := (Array.getElem?_eq_some_iff.1 hk).1
  rw [hg.block k hlt ?_]
  · exact hk
  · intro hko
    rcases h.2 with ⟨rfl, _⟩ | ⟨g', cap', cur', rfl, _, hgq', _⟩
    · simp [Value.ownBlock] at hko
    · obtain rfl : k = g' := by simpa [Value.ownBlock] using hko
      rw [hk] at hgq'
      simp at hgq'
set_option maxHeartbeats 4000000 in
set_option maxRecDepth 100000 in
theorem copyCheck_any (base b : Nat) (l : List UInt8) (w : World) (h : Bld w base b l) :
    Calls Tryd.prog 59 #[.pointer (some ⟨b, 0, none⟩)] w fun e w' => e = .returned (.tuple #[]) ∧ BldU w' base b l ∧ Below base w w' ∧ IterKept w w' := by
  obtain ⟨hB, p, v, hp, hk, hown⟩ := h
  obtain ⟨j, hj, hj2⟩ := bldInfo
  have c0 := hk.at_ 0
  have f0 : w.frozen? ⟨b, 0, none⟩ = false := hk.free 0
  have sh : w.shape? b = some (77, 2) := by unfold Blk at hk; simp [World.shape?, hk]
  rcases hp with rfl | rfl
  · have c0 : w.cell? ⟨b, 0, none⟩ = some (.pointer none) := c0
    go_enter Tryd.func59, Tryd.ntmps59
    go_wp2
    simp only [Lib.run_to_unsafe w ⟨b, 0, none⟩ Tryd.underlying75 Tryd.underlying106 hj (by omega) sh (by show 0 < 2; omega), Result.andThen]
    rw [Oper.upon_value]
    go_wp2
    simp only [run_callFunc_extern Tryd.func65 (by kernel_rfl) (by kernel_rfl) (by kernel_rfl) (e := Extern.AbiNoEscape.same) (by kernel_rfl), Lib.run_noEscape, Result.andThen]
    rw [Oper.upon_value]
    go_wp2
    simp only [Lib.run_from_unsafe w ⟨b, 0, none⟩ Tryd.underlying106 Tryd.underlying75 hj sh bldLies, Result.andThen]
    rw [Oper.upon_value]
    go_wp2
    go_end0
    exact ⟨rfl, ⟨hB, v, (hk.two _).1, hown.setBld hk 0 _⟩, (Below.refl _ _).setCell (p := ⟨b, 0, none⟩) hB _, IterKept.setCell _ _ _⟩
  · have c0 : w.cell? ⟨b, 0, none⟩ = some (.pointer (some ⟨b, 0, none⟩)) := c0
    go_enter Tryd.func59, Tryd.ntmps59
    go_wp2
    simp only [Lib.run_neq_ptr_same w _ Tryd.underlying75 hj]
    go_wp2
    go_end0
    exact ⟨rfl, ⟨hB, v, hk, hown⟩, Below.refl _ _, IterKept.refl _⟩
theorem u8_ofNat (n : Nat) (h : n < 256) : (UInt8.ofNat n).toNat = n := by
  simp [UInt8.toNat_ofNat', Nat.mod_eq_of_lt h]
theorem rune_cells (n : Nat) (h : n < 55296 ∨ 57343 < n) (h5 : n ≤ 1114111) : Lib.runeCells (n : Int) = byteVals (Jsn.enc n) := by
  unfold Lib.runeCells Jsn.enc byteVals
  by_cases h1 : n < 128
  · rw [if_pos h1, Lib.encodeRuneZ_one (by omega) (by omega)]
    simp only [List.map_cons, List.map_nil, u8_ofNat n (by omega)]
  · rw [if_neg h1]
    by_cases h2 : n < 2048
    · rw [if_pos h2, Lib.encodeRuneZ_two (by omega) (by omega)]
      simp only [List.map_cons, List.map_nil]
      rw [u8_ofNat _ (by omega), u8_ofNat _ (by omega)]
      simp
    · rw [if_neg h2]
      by_cases h3 : n < 65536
      · rw [if_pos h3, Lib.encodeRuneZ_three (by omega)]
        simp only [List.map_cons, List.map_nil]
        rw [u8_ofNat _ (by omega), u8_ofNat _ (by omega), u8_ofNat _ (by omega)]
        simp
      · rw [if_neg h3, Lib.encodeRuneZ_four (by omega) (by omega)]
        simp only [List.map_cons, List.map_nil]
        rw [u8_ofNat _ (by omega), u8_ofNat _ (by omega), u8_ofNat _ (by omega), u8_ofNat _ (by omega)]
        simp
set_option maxHeartbeats 4000000 in
set_option maxRecDepth 100000 in
theorem writeRune_any (base b : Nat) (l : List UInt8) (r : Nat) (hr : r < 55296 ∨ 57343 < r) (hr2 : r ≤ 1114111) (w : World) (h : Bld w base b l) (hl : l.length < 1099511627776) (hbw : base ≤ w.heap.size) :
    Calls Tryd.prog 50 #[.pointer (some ⟨b, 0, none⟩), .int .i32 r] w fun e w' => (∃ n, e = .returned (.tuple #[.int .i64 n, .nilIface])) ∧ BldU w' base b (l ++ Jsn.enc r) ∧ Below base w w' ∧ IterKept w w' := by
  have HC := rune_cells r hr hr2
  have HC := Lib.hid HC
  go_enter Tryd.func50, Tryd.ntmps50
  go_wp2_with (go_at_call 59; refine (copyCheck_any base b l _ h).mono ?_)
  rintro e w1 ⟨rfl, ⟨hB, v, hk, hown⟩, hb1, ik1⟩
  have c1 : w1.cell? ⟨b, 1, none⟩ = some v := hk.at_ 1
  have hs1 := hb1.size
  obtain ⟨ao, n1, cap1, hv⟩ : ∃ ao n cap, v = .slice ao n cap := by
    rcases hown.form with ⟨hv, h0⟩ | ⟨g, cap, hv, _⟩
    · exact ⟨_, _, _, hv⟩
    · exact ⟨_, _, _, hv⟩
  subst hv
  go_wp2_with fail
  refine (Tryd.utf8_AppendRune_plain base _ _ _ r (by omega) (by omega) w1 hown (by omega) (by omega)).mono ?_
  rintro e w2 ⟨v2, rfl, hown2, o, hgr⟩
  have hk2 := (hk.alloc o).grownB (OwnB.alloc hown o) (by decide) hgr
  have ik2 := (ik1.trans (IterKept.alloc w1 o)).trans (IterKept.grown (OwnB.alloc hown o) hgr)
  have hb2 : Below base w w2 := (hb1.alloc (by omega) o).grown hgr (by rw [World.size_alloc]; omega) (fun k hk => (World.ownsRow.lt hown k hk).1)
  have hownB : OwnB w2 base 5 v2 (l ++ Jsn.enc r) := by
    unfold OwnB
    rw [List.length_append]
    have e2 : byteVals (l ++ Jsn.enc r) = byteVals l ++ Lib.runeCells (r : Int) := by rw [HC.out]; unfold byteVals; rw [List.map_append]
    have e3 : (Jsn.enc r).length = (Lib.runeCells (r : Int)).length := by rw [HC.out]; unfold byteVals; rw [List.length_map]
    rw [e2, e3]
    exact hown2
  clear hown2 c1
  have d1 : w2.cell? ⟨b, 1, none⟩ = some (.slice ao n1 cap1) := hk2.at_ 1
  have f1 : w2.frozen? ⟨b, 1, none⟩ = false := hk2.free 1
  obtain ⟨ao2, n2, cap2, rfl⟩ : ∃ ao n cap, v2 = .slice ao n cap := by
    rcases hownB.form with ⟨hv, h0⟩ | ⟨g, cap, hv, _⟩
    · exact ⟨_, _, _, hv⟩
    · exact ⟨_, _, _, hv⟩
  go_wp2_with fail
  refine bodyPost_ret (v := .tuple #[.int .i64 (wrap64 ((n2 : Int) - (n1 : Int))), .nilIface]) (by simp [results, Tryd.results50, go_sem]) rfl ?_
  exact ⟨⟨_, rfl⟩, ⟨hB, _, (hk2.two _).2, hownB.setBld hk2 1 _⟩, hb2.setCell (p := ⟨b, 1, none⟩) hB _, ik2.trans (IterKept.setCell _ _ _)⟩
theorem Bld.lib {w : World} {base b : Nat} {l : List UInt8} (h : Bld w base b l) : Lib.IsBuilder 77 5 base b (Lib.byteCells l) w := by
  obtain ⟨hB, p, v, hp, hk, hown⟩ := h
  have ho : w.ownsRow base 5 1 v (Lib.byteCells l).length (Lib.byteCells l) := by
    rw [Lib.byteCells_length]
    exact hown
  have hne : v.ownBlock ≠ some b := Lib.ownBlock_ne ho hk (by decide)
  rcases hp with rfl | rfl
  · exact .inl ⟨hB, v, hk, ho, hne⟩
  · exact .inr ⟨hB, v, hk, ho, hne⟩
theorem string_any (base b : Nat) (l : List UInt8) (w : World) (h : Bld w base b l) (hbw : base ≤ w.heap.size) :
    Calls Tryd.prog 48 #[.pointer (some ⟨b, 0, none⟩)] w fun e w' => e = .returned (.string ⟨l.toArray⟩) ∧ Below base w w' :=
  Tryd.Builder_String_any base b l w h.lib hbw
/-- A variable of type strings.Builder that was just made. -/
theorem Bld.fresh (w : World) : Bld (w.alloc (.cells #[.pointer none, .slice none 0 0] 77)) w.heap.size w.heap.size [] :=
  ⟨Nat.le_refl _, _, _, .inl rfl, Blk.new _ _ _, OwnB.nil _ _ _⟩
end Go.Proofs.YtjfkiomegacpeaaDoor
