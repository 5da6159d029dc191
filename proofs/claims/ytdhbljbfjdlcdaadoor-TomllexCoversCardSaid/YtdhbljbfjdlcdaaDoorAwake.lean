/-
  The law's examples: awake returns true.
-/
import Derived.Test.YtdhbljbfjdlcdaaDoorAw1
namespace Go.Proofs.YtdhbljbfjdlcdaaDoor
open Go.RowKit
set_option maxRecDepth 100000 in
set_option maxHeartbeats 4000000 in
theorem awake_any (w : World) (hT : Lib.Utf8Tabs (Tryd.lays197_ren.g 3) (Tryd.lays197_ren.g 4) w) :
    Calls Tryd.prog 8 #[] w fun e w' => e = .returned (.bool true) ∧ Below w.heap.size w w' := by
  have HA := Lib.hid (callA w hT)
  have HB := Lib.hid (fun w1 hb => callB w1 (Utf8Tabs_below hT hb))
  have HC := Lib.hid (fun w1 hb => callC w1 (Utf8Tabs_below hT hb))
  have HD := Lib.hid (fun w1 hb => callD w1 (Utf8Tabs_below hT hb))
  clear hT
  go_enter Tryd.func8, Tryd.ntmps8
  go_wp2_with fail
  refine HA.out.mono ?_
  rintro e w1 ⟨⟨tv, nv, rfl, hot, hon⟩, hb1⟩
  go_wp2_with fail
  refine (HB.out w1 hb1).mono ?_
  rintro e w2 ⟨rfl, k2⟩
  have hb2 := hb1.trans (k2.mono hb1.size)
  have hot2 := OwnTok.keep hot k2
  have hon2 := OwnNote.keep hon k2
  clear hot hon k2
  go_wp2_with fail
  refine (HC.out w2 hb2).mono ?_
  rintro e w3 ⟨rfl, k3⟩
  have hb3 := hb2.trans (k3.mono hb2.size)
  have hot3 := OwnTok.keep hot2 k3
  have hon3 := OwnNote.keep hon2 k3
  clear hot2 hon2 k3
  go_wp2_with fail
  refine (HD.out w3 hb3).mono ?_
  rintro e w4 ⟨rfl, k4⟩
  have hb4 := hb3.trans (k4.mono hb3.size)
  have hot4 := OwnTok.keep hot3 k4
  have hon4 := OwnNote.keep hon3 k4
  clear hot3 hon3 k4 hb3 hb2
  go_wp2_with fail
  refine (same_yes _ _ _ exA (row_form (OwnTok.keep hot4 (below_alloc _))) (want_row w4) (by decide)).mono ?_
  rintro e w5 ⟨rfl, k5⟩
  have hb5 := ((below_alloc _).trans (k5.mono (by rw [World.size_alloc]; omega)) : Below w4.heap.size w4 w5)
  obtain ⟨ao, cn, rfl, hcn, Fn⟩ := row_form (OwnNote.keep hon4 hb5)
  obtain ⟨gn, rfl, G⟩ := Fn (by decide)
  have c0 : w5.cell? ⟨gn, 0, none⟩ = some (.int .i64 10) := G 0 (by decide)
  have c1 : w5.cell? ⟨gn, 1, none⟩ = some (.int .i64 13) := G 1 (by decide)
  have c2 : w5.cell? ⟨gn, 2, none⟩ = some (.string ⟨#[35, 32, 121]⟩) := G 2 (by decide)
  have hb6 := hb4.trans (hb5.mono hb4.size)
  clear G Fn hon4 hot4 k5 hb5 HA HB HC HD hb1
  go_wp2
  go_ret
  exact ⟨rfl, hb6⟩
end Go.Proofs.YtdhbljbfjdlcdaaDoor
