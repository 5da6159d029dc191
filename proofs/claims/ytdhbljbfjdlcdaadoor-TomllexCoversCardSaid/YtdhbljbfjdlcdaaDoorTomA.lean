/-
  The leaves of tomllex by their contracts: classes of bytes.
-/
import Derived.Test.YtdhbljbfjdlcdaaDoorKit8
import Derived.Test.YtdhbljbfjdlcdaaDoorTom0
import Derived.Test.YtdhbljbfjdlcdaaDoorShelf
import Derived.Test.YtdhbljbfjdlcdaaDoorChecked
import Derived.Lib.Hide
namespace Go.Proofs.YtdhbljbfjdlcdaaDoor
open Go.RowKit
theorem bytes_all {P : UInt8 → Prop} (h : ∀ n, n < 256 → P (UInt8.ofNat n)) (c : UInt8) : P c := by
  have := h c.toNat c.toNat_lt
  rwa [UInt8.ofNat_toNat] at this
theorem ret_bool {a b : Bool} {w : World} (h : a = b) : Go.Ending.returned (.bool a) = .returned (.bool b) ∧ w = w := by
  subst h; exact ⟨rfl, rfl⟩
set_option synthInstance.maxSize 100000 in
set_option synthInstance.maxHeartbeats 0 in
set_option maxRecDepth 100000 in
set_option maxHeartbeats 4000000 in
theorem blank_any (c : UInt8) (w : World) :
    Calls Tryd.prog 19 #[.int .u8 (c.toNat : Int)] w fun e w' => e = .returned (.bool (Tom.blank c)) ∧ w = w' := by
  have hc := c.toNat_lt
  go_enter Tryd.func19, Tryd.ntmps19
  go_wp2
  all_goals
    go_ret
    refine ret_bool ?_
    clear w hc
    revert c
    refine bytes_all ?_
    decide +kernel
set_option synthInstance.maxSize 100000 in
set_option synthInstance.maxHeartbeats 0 in
set_option maxRecDepth 100000 in
set_option maxHeartbeats 4000000 in
theorem control_any (c : UInt8) (w : World) :
    Calls Tryd.prog 21 #[.int .u8 (c.toNat : Int)] w fun e w' => e = .returned (.bool (Tom.control c)) ∧ w = w' := by
  have hc := c.toNat_lt
  go_enter Tryd.func21, Tryd.ntmps21
  go_wp2
  all_goals
    go_ret
    refine ret_bool ?_
    clear w hc
    revert c
    refine bytes_all ?_
    decide +kernel
set_option synthInstance.maxSize 100000 in
set_option synthInstance.maxHeartbeats 0 in
set_option maxRecDepth 100000 in
set_option maxHeartbeats 4000000 in
theorem rcontrol_any (c : UInt8) (w : World) :
    Calls Tryd.prog 25 #[.int .u8 (c.toNat : Int)] w fun e w' => e = .returned (.bool (Tom.control c)) ∧ w = w' := by
  have hc := c.toNat_lt
  go_enter Tryd.func25, Tryd.ntmps25
  go_wp2
  all_goals
    go_ret
    refine ret_bool ?_
    clear w hc
    revert c
    refine bytes_all ?_
    decide +kernel
set_option synthInstance.maxSize 100000 in
set_option synthInstance.maxHeartbeats 0 in
set_option maxRecDepth 100000 in
set_option maxHeartbeats 4000000 in
theorem bare_any (c : UInt8) (w : World) :
    Calls Tryd.prog 40 #[.int .u8 (c.toNat : Int)] w fun e w' => e = .returned (.bool (Tom.bare c)) ∧ w = w' := by
  have hc := c.toNat_lt
  go_enter Tryd.func40, Tryd.ntmps40
  go_wp2
  all_goals
    go_ret
    refine ret_bool ?_
    clear w hc
    revert c
    refine bytes_all ?_
    decide +kernel
set_option synthInstance.maxSize 100000 in
set_option synthInstance.maxHeartbeats 0 in
set_option maxRecDepth 100000 in
set_option maxHeartbeats 4000000 in
theorem rbare_any (c : UInt8) (w : World) :
    Calls Tryd.prog 44 #[.int .u8 (c.toNat : Int)] w fun e w' => e = .returned (.bool (Tom.bare c)) ∧ w = w' := by
  have hc := c.toNat_lt
  go_enter Tryd.func44, Tryd.ntmps44
  go_wp2
  all_goals
    go_ret
    refine ret_bool ?_
    clear w hc
    revert c
    refine bytes_all ?_
    decide +kernel
end Go.Proofs.YtdhbljbfjdlcdaaDoor
