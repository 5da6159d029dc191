/-
  A builder's String, by the shelf's contract.
-/
import Derived.Test.YtdhbljbfjdlcdaaDoorBld
import Derived.Test.YtdhbljbfjdlcdaaDoorShelf
namespace Go.Proofs.YtdhbljbfjdlcdaaDoor
open Go.RowKit
theorem Bld.lib {w : World} {base b : Nat} {l : List UInt8} (h : Bld w base b l) : Lib.IsBuilder 100 5 base b (Lib.byteCells l) w := by
  obtain ⟨hB, p, v, hp, hk, hown⟩ := h
  have ho : w.ownsRow base 5 1 v (Lib.byteCells l).length (Lib.byteCells l) := by
    rw [Lib.byteCells_length]
    exact hown
  have hne : v.ownBlock ≠ some b := Lib.ownBlock_ne ho hk (by decide)
  rcases hp with rfl | rfl
  · exact .inl ⟨hB, v, hk, ho, hne⟩
  · exact .inr ⟨hB, v, hk, ho, hne⟩
theorem string_any (base b : Nat) (l : List UInt8) (w : World) (h : Bld w base b l) (hbw : base ≤ w.heap.size) :
    Calls Tryd.prog 68 #[.pointer (some ⟨b, 0, none⟩)] w fun e w' => e = .returned (.string ⟨l.toArray⟩) ∧ Below base w w' :=
  Tryd.Builder_String_any base b l w h.lib hbw
/-- A variable of type strings.Builder that was just made. -/
theorem Bld.fresh (w : World) : Bld (w.alloc (.cells #[.pointer none, .slice none 0 0] 100)) w.heap.size w.heap.size [] :=
  ⟨Nat.le_refl _, _, _, .inl rfl, Blk.new _ _ _, OwnB.nil _ _ _⟩
end Go.Proofs.YtdhbljbfjdlcdaaDoor
