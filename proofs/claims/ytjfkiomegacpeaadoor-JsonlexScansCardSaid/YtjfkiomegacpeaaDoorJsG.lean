/-
  General lemmas for the walks of jsonlex, and its classes of bytes.
-/
import Derived.Test.YtjfkiomegacpeaaDoorKit9
import Derived.Test.YtjfkiomegacpeaaDoorJs1
import Derived.Test.YtjfkiomegacpeaaDoorShelf
import Derived.Test.YtjfkiomegacpeaaDoorChecked
import Derived.Lib.Hide
namespace Go.Proofs.YtjfkiomegacpeaaDoor
open Go.RowKit
theorem bytes_all {P : UInt8 → Prop} (h : ∀ n, n < 256 → P (UInt8.ofNat n)) (c : UInt8) : P c := by
  have := h c.toNat c.toNat_lt
  rwa [UInt8.ofNat_toNat] at this
theorem ret_bool {a b : Bool} {w : World} (h : a = b) : Go.Ending.returned (.bool a) = .returned (.bool b) ∧ w = w := by
  subst h; exact ⟨rfl, rfl⟩
theorem ret_i64 {a b : Int} {w : World} (h : a = b) : Go.Ending.returned (.int .i64 a) = .returned (.int .i64 b) ∧ w = w := by
  subst h; exact ⟨rfl, rfl⟩
theorem ext_size (r : ByteArray) (n : Nat) : (r.extract n r.size).size = r.size - n := by
  have h := congrArg List.length (Lib.extract_to_end r n)
  rwa [size_toList, List.length_drop, size_toList] at h
theorem ext_part (s : ByteArray) (k n : Nat) : (s.extract k (k + n)).data.toList = (s.data.toList.drop k).take n := by
  rw [Lib.extract_data]
  simp [List.take_drop]
theorem ext0 (s : ByteArray) (n : Nat) : (s.extract 0 n).data.toList = s.data.toList.take n := by
  have h := ext_part s 0 n
  rwa [Nat.zero_add, List.drop_zero] at h
theorem byte_ne {c : UInt8} (n : UInt8) (h : c ≠ n) : ((c.toNat : Int) == (n.toNat : Int)) = false :=
  beq_eq_false_iff_ne.2 fun e => h (UInt8.toNat_inj.1 (Int.ofNat.inj e))
theorem app_lst (a b : ByteArray) : (a ++ b).data.toList = a.data.toList ++ b.data.toList := by
  rw [ByteArray.data_append]
  simp
theorem drop_at (s : ByteArray) (p : Nat) (h : p < s.size) : s.data.toList.drop p = s[p] :: s.data.toList.drop (p + 1) := List.drop_eq_getElem_cons (by rw [size_toList]; exact h)
theorem head_at (s : ByteArray) (p : Nat) (h : p < s.size) : (s.data.toList.drop p).headD 0 = s[p] := by rw [drop_at s p h]; rfl
set_option synthInstance.maxSize 100000 in
set_option synthInstance.maxHeartbeats 0 in
set_option maxRecDepth 100000 in
set_option maxHeartbeats 4000000 in
theorem letter_any (c : UInt8) (w : World) :
    Calls Tryd.prog 32 #[.int .u8 (c.toNat : Int)] w fun e w' => e = .returned (.bool (Jsn.letter c)) ∧ w = w' := by
  have hc := c.toNat_lt
  go_enter Tryd.func32, Tryd.ntmps32
  go_wp2
  all_goals
    go_ret
    refine ret_bool ?_
    clear w hc
    revert c
    refine bytes_all ?_
    decide +kernel
set_option synthInstance.maxSize 100000 in
set_option synthInstance.maxHeartbeats 0 in
set_option maxRecDepth 100000 in
set_option maxHeartbeats 4000000 in
theorem numeric_any (c : UInt8) (w : World) :
    Calls Tryd.prog 33 #[.int .u8 (c.toNat : Int)] w fun e w' => e = .returned (.bool (Jsn.numeric c)) ∧ w = w' := by
  have hc := c.toNat_lt
  go_enter Tryd.func33, Tryd.ntmps33
  go_wp2
  all_goals
    go_ret
    refine ret_bool ?_
    clear w hc
    revert c
    refine bytes_all ?_
    decide +kernel
end Go.Proofs.YtjfkiomegacpeaaDoor
