/-
  tomllex.escape by its contract.
-/
import Derived.Test.YtdhbljbfjdlcdaaDoorTomH
namespace Go.Proofs.YtdhbljbfjdlcdaaDoor
open Go.RowKit
theorem hexNum_short : ∀ (n v : Nat) (l : List UInt8), l.length < n → Tom.hexNum n v l = none
  | 0, _, _, h => absurd h (by omega)
  | _ + 1, _, [], _ => rfl
  | n + 1, v, c :: l, h => by
    unfold Tom.hexNum
    split
    · exact hexNum_short n _ l (by simpa using h)
    · rfl
set_option maxRecDepth 100000 in
set_option maxHeartbeats 4000000 in
theorem escape_cut4 (s : ByteArray) (w : World) (h2 : 2 ≤ s.size) (hs : s.size < 2 + 4) (n1 : ((s[1].toNat : Int) = 117)) :
    Calls Tryd.prog 71 #[.string s] w (RetE w none) := by
  have h2 : ¬ ((s.size : Int) < 2) := by omega
  have h6 : (s.size : Int) < 2 + 4 := by omega
  go_enter Tryd.func71, Tryd.ntmps71
  go_wp2
  go_ret2
  exact ⟨rfl, Below.refl _ _⟩
set_option maxRecDepth 100000 in
set_option maxHeartbeats 4000000 in
theorem escape_cut8 (s : ByteArray) (w : World) (h2 : 2 ≤ s.size) (hs : s.size < 2 + 8) (n1 : ((s[1].toNat : Int) = 85)) :
    Calls Tryd.prog 71 #[.string s] w (RetE w none) := by
  have h2 : ¬ ((s.size : Int) < 2) := by omega
  have h6 : (s.size : Int) < 2 + 8 := by omega
  go_enter Tryd.func71, Tryd.ntmps71
  go_wp2
  go_ret2
  exact ⟨rfl, Below.refl _ _⟩
theorem escape_any (s : ByteArray) (w : World) (hm : s.size ≤ 140737488351232) :
    Calls Tryd.prog 71 #[.string s] w (RetE w (Tom.escape s.data.toList)) := by
  by_cases h2 : s.size < 2
  · exact escape_short s w h2
  · have hs : 2 ≤ s.size := by omega
    have e0 : s.data.toList = s[0] :: s[1] :: s.data.toList.drop 2 := by
      have a0 : s.data.toList.drop 0 = s[0] :: s.data.toList.drop 1 := List.drop_eq_getElem_cons (by rw [size_toList]; omega)
      have a1 : s.data.toList.drop 1 = s[1] :: s.data.toList.drop 2 := List.drop_eq_getElem_cons (by rw [size_toList]; omega)
      rw [a1] at a0
      simpa using a0
    have hl : (s.data.toList.drop 2).length = s.size - 2 := by rw [List.length_drop, size_toList]
    by_cases h4 : s[1] = 117
    · have n1 : (s[1].toNat : Int) = 117 := by rw [h4]; rfl
      have hE : Tom.escape s.data.toList = match Tom.hexNum 4 0 (s.data.toList.drop 2) with | some n => if Tom.scalar n then some (Tom.enc n, 6) else none | none => none := by
        conv => lhs; rw [e0, h4]
        rfl
      by_cases hL : s.size < 2 + 4
      · have e : Tom.escape s.data.toList = none := by rw [hE, hexNum_short _ _ _ (by omega)]
        rw [e]
        exact escape_cut4 s w hs hL n1
      · exact escape_hex4 s w (by omega) hm n1 _ hE
    · by_cases h8 : s[1] = 85
      · have n1 : (s[1].toNat : Int) = 85 := by rw [h8]; rfl
        have hE : Tom.escape s.data.toList = match Tom.hexNum 8 0 (s.data.toList.drop 2) with | some n => if Tom.scalar n then some (Tom.enc n, 10) else none | none => none := by
          conv => lhs; rw [e0, h8]
          rfl
        by_cases hL : s.size < 2 + 8
        · have e : Tom.escape s.data.toList = none := by rw [hE, hexNum_short _ _ _ (by omega)]
          rw [e]
          exact escape_cut8 s w hs hL n1
        · exact escape_hex8 s w (by omega) hm n1 _ hE
      · exact escape_plain s w hs h4 h8
end Go.Proofs.YtdhbljbfjdlcdaaDoor
