import Derived.Test.YtlfhijdonejacaaDoorChecked
import Derived.Test.YtlfhijdonejacaaDoorKit
namespace Go.Proofs.YtlfhijdonejacaaDoor
open Go.RowKit
def kList : List Int := [0x428a2f98, 0x71374491, 0xb5c0fbcf, 0xe9b5dba5, 0x3956c25b, 0x59f111f1, 0x923f82a4, 0xab1c5ed5,
  0xd807aa98, 0x12835b01, 0x243185be, 0x550c7dc3, 0x72be5d74, 0x80deb1fe, 0x9bdc06a7, 0xc19bf174,
  0xe49b69c1, 0xefbe4786, 0x0fc19dc6, 0x240ca1cc, 0x2de92c6f, 0x4a7484aa, 0x5cb0a9dc, 0x76f988da,
  0x983e5152, 0xa831c66d, 0xb00327c8, 0xbf597fc7, 0xc6e00bf3, 0xd5a79147, 0x06ca6351, 0x14292967,
  0x27b70a85, 0x2e1b2138, 0x4d2c6dfc, 0x53380d13, 0x650a7354, 0x766a0abb, 0x81c2c92e, 0x92722c85,
  0xa2bfe8a1, 0xa81a664b, 0xc24b8b70, 0xc76c51a3, 0xd192e819, 0xd6990624, 0xf40e3585, 0x106aa070,
  0x19a4c116, 0x1e376c08, 0x2748774c, 0x34b0bcb5, 0x391c0cb3, 0x4ed8aa4a, 0x5b9cca4f, 0x682e6ff3,
  0x748f82ee, 0x78a5636f, 0x84c87814, 0x8cc70208, 0x90befffa, 0xa4506ceb, 0xbef9a3f7, 0xc67178f2]
def kAt (j : Nat) : Int := kList.getD j 0
def hList : List Int := [0x6a09e667, 0xbb67ae85, 0x3c6ef372, 0xa54ff53a, 0x510e527f, 0x9b05688c, 0x1f83d9ab, 0x5be0cd19]
def hAt (j : Nat) : Int := hList.getD j 0
theorem zeroW : (Tryd.prog.info? 49).bind (·.zero) = some (.agg (arrOf .u32 64 fun _ => 0)) := by kernel_rfl
theorem zeroH : (Tryd.prog.info? 24).bind (·.zero) = some (.agg (arrOf .u32 8 fun _ => 0)) := by kernel_rfl
theorem sizeW : (Tryd.prog.info? 49).map (·.size) = some 64 := by kernel_rfl
theorem sizeH : (Tryd.prog.info? 24).map (·.size) = some 8 := by kernel_rfl
theorem underW : Tryd.prog.underlying 49 = some (.array 64 23) := by kernel_rfl
theorem underH : Tryd.prog.underlying 24 = some (.array 8 23) := by kernel_rfl
def kParts : Array (Nat × Value) := ((List.range 64).map fun j => (j, Value.int .u32 (kAt j))).toArray
set_option maxRecDepth 100000 in
set_option maxHeartbeats 400000 in
theorem rounds_any (w : World)  :
    Calls Tryd.prog 22 #[] w fun e w' => e = .returned (.agg (arrOf .u32 64 kAt)) ∧ Below w.heap.size w w' := by
  go_enter Tryd.func22, Tryd.ntmps22
  go_wp2_with (first | (with_reducible refine wpList_alloc_sym rfl 49 rfl _ zeroW ?_) | ((with_reducible refine wpList_build_sym rfl 49 _ rfl (arrOf .u32 64 kAt) ?_ ?_); kernel_rfl) | ((with_reducible refine wpList_store_arr rfl 49 (.tmp 0) (.tmp 1) rfl rfl w.heap.size .u32 64 kAt 49 _ sizeW ?_ ?_ (Blk.new _ _ _) (arr_size _ _ _) ?_); exact rfl; exact rfl))
  exact bodyPost_ret (results_arr rfl _ _ w.heap.size 49 .u32 64 kAt 23 underW sizeW rfl (Blk.row (Blk.new _ _ _) _)) rfl ⟨rfl, setRow_below (below_alloc _) (Nat.le_refl _) _⟩
end Go.Proofs.YtlfhijdonejacaaDoor
