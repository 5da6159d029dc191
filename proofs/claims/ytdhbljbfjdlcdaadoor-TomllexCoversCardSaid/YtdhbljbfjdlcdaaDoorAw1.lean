/-
  The law's examples: what Scan returns.
-/
import Derived.Test.YtdhbljbfjdlcdaaDoorSame
namespace Go.Proofs.YtdhbljbfjdlcdaaDoor
open Go.RowKit
def exA : List Tom.T := [⟨3, 0, 1, [97]⟩, ⟨2, 1, 2, [46]⟩, ⟨3, 2, 3, [98]⟩, ⟨2, 4, 5, [61]⟩, ⟨4, 6, 9, [120]⟩, ⟨8, 13, 13, []⟩]
theorem scanA : Tom.scan [97, 46, 98, 32, 61, 32, 34, 120, 34, 32, 35, 32, 121] = .ok exA [⟨10, 13, [35, 32, 121]⟩] := by kernel_rfl
theorem scanB : Tom.scan [34, 97] = .bad 0 := by kernel_rfl
theorem scanC : Tom.scan [34, 92, 113, 34] = .bad 1 := by kernel_rfl
theorem scanD : Tom.scan [64] = .bad 0 := by kernel_rfl
theorem chkA : chk 14 0 [97, 46, 98, 32, 61, 32, 34, 120, 34, 32, 35, 32, 121] = none := by kernel_rfl
theorem chkB : chk 3 0 [34, 97] = none := by kernel_rfl
theorem chkC : chk 5 0 [34, 92, 113, 34] = none := by kernel_rfl
theorem chkD : chk 2 0 [64] = none := by kernel_rfl
theorem callA (w : World) (hT : Lib.Utf8Tabs (Tryd.lays197_ren.g 3) (Tryd.lays197_ren.g 4) w) : Calls Tryd.prog 9 #[.string ⟨#[97, 46, 98, 32, 61, 32, 34, 120, 34, 32, 35, 32, 121]⟩] w fun e w' => (∃ tv nv, e = .returned (.tuple #[tv, nv, .int .i64 0, .int .i64 0]) ∧ OwnTok w' w.heap.size tv exA ∧ OwnNote w' w.heap.size nv [⟨10, 13, [35, 32, 121]⟩]) ∧ Below w.heap.size w w' := by
  have h := scan_good ⟨#[97, 46, 98, 32, 61, 32, 34, 120, 34, 32, 35, 32, 121]⟩ w (by decide) hT chkA
  rw [show (⟨#[97, 46, 98, 32, 61, 32, 34, 120, 34, 32, 35, 32, 121]⟩ : ByteArray).data.toList = [97, 46, 98, 32, 61, 32, 34, 120, 34, 32, 35, 32, 121] from rfl, scanA] at h
  exact h
theorem callB (w : World) (hT : Lib.Utf8Tabs (Tryd.lays197_ren.g 3) (Tryd.lays197_ren.g 4) w) : Calls Tryd.prog 9 #[.string ⟨#[34, 97]⟩] w fun e w' => e = .returned (.tuple #[.slice none 0 0, .slice none 0 0, .int .i64 0, .int .i64 4]) ∧ Below w.heap.size w w' := by
  have h := scan_good ⟨#[34, 97]⟩ w (by decide) hT chkB
  rw [show (⟨#[34, 97]⟩ : ByteArray).data.toList = [34, 97] from rfl, scanB] at h
  exact h
theorem callC (w : World) (hT : Lib.Utf8Tabs (Tryd.lays197_ren.g 3) (Tryd.lays197_ren.g 4) w) : Calls Tryd.prog 9 #[.string ⟨#[34, 92, 113, 34]⟩] w fun e w' => e = .returned (.tuple #[.slice none 0 0, .slice none 0 0, .int .i64 1, .int .i64 4]) ∧ Below w.heap.size w w' := by
  have h := scan_good ⟨#[34, 92, 113, 34]⟩ w (by decide) hT chkC
  rw [show (⟨#[34, 92, 113, 34]⟩ : ByteArray).data.toList = [34, 92, 113, 34] from rfl, scanC] at h
  exact h
theorem callD (w : World) (hT : Lib.Utf8Tabs (Tryd.lays197_ren.g 3) (Tryd.lays197_ren.g 4) w) : Calls Tryd.prog 9 #[.string ⟨#[64]⟩] w fun e w' => e = .returned (.tuple #[.slice none 0 0, .slice none 0 0, .int .i64 0, .int .i64 4]) ∧ Below w.heap.size w w' := by
  have h := scan_good ⟨#[64]⟩ w (by decide) hT chkD
  rw [show (⟨#[64]⟩ : ByteArray).data.toList = [64] from rfl, scanD] at h
  exact h
theorem RowR.built (w : World) (T : TypeId) (size n : Nat) (xs : List Value) : RowR (w.alloc (.cells xs.toArray T)) size (.slice (some ⟨w.heap.size, 0, none⟩) n n) n xs :=
  ⟨_, n, rfl, Nat.le_refl _, fun _ => ⟨w.heap.size, rfl, fun k _ => by rw [Blk.at_ (Blk.new w T xs.toArray) k, List.getElem?_toArray]⟩⟩
theorem want_row (w : World) : RowR (w.alloc (.cells #[.int .i64 3, .int .i64 0, .int .i64 1, .string ⟨#[97]⟩, .int .i64 2, .int .i64 1, .int .i64 2, .string ⟨#[46]⟩, .int .i64 3, .int .i64 2, .int .i64 3, .string ⟨#[98]⟩, .int .i64 2, .int .i64 4, .int .i64 5, .string ⟨#[61]⟩, .int .i64 4, .int .i64 6, .int .i64 9, .string ⟨#[120]⟩, .int .i64 8, .int .i64 13, .int .i64 13, .string ⟨#[]⟩] 47)) 4 (.slice (some ⟨w.heap.size, 0, none⟩) 6 6) 6 (exA.flatMap tokCells) :=
  RowR.built w 47 4 6 (exA.flatMap tokCells)
end Go.Proofs.YtdhbljbfjdlcdaaDoor
