/-
  ArmorJoins: true at every two strings.
-/
import Derived.Test.YtjhmfcmcgibgmaaDoorArmO
namespace Go.Proofs.YtjhmfcmcgibgmaaDoor
open Go.RowKit
theorem app_list (a b : ByteArray) : (a ++ b).data.toList = a.data.toList ++ b.data.toList := by
  rw [ByteArray.data_append]
  simp
theorem app_mk (l r : List UInt8) : (⟨(l ++ r).toArray⟩ : ByteArray) = ⟨l.toArray⟩ ++ ⟨r.toArray⟩ := by
  refine Go.WideShapes.bytes_inj ?_
  rw [app_list]
set_option maxRecDepth 100000 in
set_option maxHeartbeats 4000000 in
theorem armorJoins_any (a b : ByteArray) (za : a.size ≤ 140737488351232) (zb : b.size ≤ 140737488351232) (w : World) :
    Calls Tryd.prog 9 #[.string a, .string b] w fun e w' => e = .returned (.bool true) ∧ Below w.heap.size w w' := by
  by_cases hs : a.size + b.size ≤ 1000
  · obtain ⟨N, hN⟩ : ∃ N, N = a.size / 3 * 3 := ⟨_, rfl⟩
    have hN1 : N ≤ a.size ∧ N % 3 = 0 := by omega
    have hN2 : (a.size : Int) / 3 * 3 = (N : Int) := by omega
    obtain ⟨c, hc⟩ : ∃ c, c = a.extract 0 N := ⟨_, rfl⟩
    have hcl : c.data.toList = a.data.toList.take N := by rw [hc, ext_upto]
    have hcs : c.size = N := by rw [← size_toList, hcl, List.length_take, size_toList]; omega
    have hEa := fun w' => hex_any a w' (by omega)
    have hEb := fun w' => hex_any b w' (by omega)
    have hEab := fun w' => hex_any (a ++ b) w' (by rw [ByteArray.size_append]; omega)
    have hBc := fun w' => b64_any c w' (by omega)
    have hBb := fun w' => b64_any b w' (by omega)
    have hBcb := fun w' => b64_any (c ++ b) w' (by rw [ByteArray.size_append]; omega)
    rw [app_list, Arm.hexL_append, app_mk] at hEab
    rw [app_list, Arm.b64_append _ _ (by rw [size_toList]; omega), app_mk] at hBcb
    have l1 : (⟨(Arm.hexL a.data.toList).toArray⟩ : ByteArray).size ≤ 2000 := by show (List.toArray _).size ≤ _; rw [List.size_toArray, Arm.hexL_length, size_toList]; omega
    have l2 : (⟨(Arm.hexL b.data.toList).toArray⟩ : ByteArray).size ≤ 2000 := by show (List.toArray _).size ≤ _; rw [List.size_toArray, Arm.hexL_length, size_toList]; omega
    have l3 : (⟨(Arm.b64 c.data.toList).toArray⟩ : ByteArray).size ≤ 2000 := by show (List.toArray _).size ≤ _; rw [List.size_toArray, Arm.b64_length, size_toList]; omega
    have l4 : (⟨(Arm.b64 b.data.toList).toArray⟩ : ByteArray).size ≤ 2000 := by show (List.toArray _).size ≤ _; rw [List.size_toArray, Arm.b64_length, size_toList]; omega
    generalize (⟨(Arm.hexL a.data.toList).toArray⟩ : ByteArray) = ha at *
    generalize (⟨(Arm.hexL b.data.toList).toArray⟩ : ByteArray) = hb at *
    generalize (⟨(Arm.b64 c.data.toList).toArray⟩ : ByteArray) = bc at *
    generalize (⟨(Arm.b64 b.data.toList).toArray⟩ : ByteArray) = bb at *
    have HEa := Lib.hid hEa
    have HEb := Lib.hid hEb
    have HEab := Lib.hid hEab
    have HBc := Lib.hid hBc
    have HBb := Lib.hid hBb
    have HBcb := Lib.hid hBcb
    have hcs2 : c.size ≤ 1000 := by omega
    have hce : a.extract 0 N = c := hc.symm
    clear hEa hEb hEab hBc hBb hBcb hcl hcs hN hc
    go_enter Tryd.func9, Tryd.ntmps9
    go_wp2_with fail
    refine (awake_any w).mono ?_
    rintro e w1 ⟨rfl, hb1⟩
    go_wp2_with fail
    refine (HEab.out w1).mono ?_
    rintro e w2 ⟨rfl, k0⟩
    have hbb := hb1.trans (k0.mono hb1.size)
    clear hb1 k0
    go_wp2_with fail
    refine (HEa.out w2).mono ?_
    rintro e w3 ⟨rfl, k1⟩
    replace hbb := hbb.trans (k1.mono hbb.size)
    clear k1
    go_wp2_with fail
    refine (HEb.out w3).mono ?_
    rintro e w4 ⟨rfl, k2⟩
    replace hbb := hbb.trans (k2.mono hbb.size)
    clear k2
    go_wp2_with fail
    refine (HBcb.out w4).mono ?_
    rintro e w5 ⟨rfl, k3⟩
    replace hbb := hbb.trans (k3.mono hbb.size)
    clear k3
    go_wp2_with fail
    refine (HBc.out w5).mono ?_
    rintro e w6 ⟨rfl, k4⟩
    replace hbb := hbb.trans (k4.mono hbb.size)
    clear k4
    go_wp2_with fail
    refine (HBb.out w6).mono ?_
    rintro e w7 ⟨rfl, k5⟩
    replace hbb := hbb.trans (k5.mono hbb.size)
    clear k5
    go_wp2_with fail
    have hcl : ∀ (j : Nat) x, ([a, ⟨#[]⟩, b] : List ByteArray)[j]? = some x → (w7.alloc (.cells #[.string a, .string ⟨#[]⟩, .string b] 9)).cell? ⟨w7.heap.size, j, none⟩ = some (.string x) := by
      intro j x hx
      rw [Blk.at_ (Blk.new w7 9 #[.string a, .string ⟨#[]⟩, .string b]) j]
      match j, hx with
      | 0, hx => simp at hx; subst hx; rfl
      | 1, hx => simp at hx; subst hx; rfl
      | 2, hx => simp at hx; subst hx; rfl
    have hcat : (⟨(catB [a, ⟨#[]⟩, b]).toArray⟩ : ByteArray) = a ++ b := by
      refine Go.WideShapes.bytes_inj ?_
      rw [app_list]
      show (catB [a, ⟨#[]⟩, b]) = _
      simp [catB]
    have hU := unfold_cells w7.heap.size 3 [a, ⟨#[]⟩, b] (w7.alloc (.cells #[.string a, .string ⟨#[]⟩, .string b] 9)) hcl (by rw [World.size_alloc]; omega) (by show 3 ≤ _; decide) (by show 3 ≤ 3; decide) (by
      have e : catB [a, ⟨#[]⟩, b] = a.data.toList ++ b.data.toList := by simp [catB]
      rw [e, List.length_append, size_toList, size_toList]; omega)
    rw [hcat] at hU
    refine hU.mono ?_
    rintro e w8 ⟨rfl, k8⟩
    have hbb2 := (hbb.alloc hbb.size (.cells #[.string a, .string ⟨#[]⟩, .string b] 9)).trans (k8.mono (by rw [World.size_alloc]; have := hbb.size; omega))
    clear hU hcl hcat k8 hbb
    go_wp2_with fail
    go_ret
    exact ⟨rfl, hbb2⟩
  · go_enter Tryd.func9, Tryd.ntmps9
    have hs2 : 1000 < (a.size : Int) + b.size := by omega
    go_wp2_with fail
    refine (awake_any w).mono ?_
    rintro e w1 ⟨rfl, hb1⟩
    go_wp2_with fail
    go_ret
    exact ⟨rfl, hb1⟩
end Go.Proofs.YtjhmfcmcgibgmaaDoor
