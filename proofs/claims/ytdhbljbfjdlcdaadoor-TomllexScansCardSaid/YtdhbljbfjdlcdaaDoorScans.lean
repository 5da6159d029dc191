/-
  TomllexScans: true at every source.
-/
import Derived.Test.YtdhbljbfjdlcdaaDoorOut
import Derived.Test.YtdhbljbfjdlcdaaDoorRefS
namespace Go.Proofs.YtdhbljbfjdlcdaaDoor
open Go.RowKit
def RetRO (w : World) (o : Out) (e : Go.Ending) (w' : World) : Prop := (∃ tv nv, e = .returned (.tuple #[tv, nv, .int .i64 (o.at_ : Int), .int .i64 (o.code : Int)]) ∧ OwnRTok w' w.heap.size tv o.toks ∧ OwnNote w' w.heap.size nv o.notes) ∧ Below w.heap.size w w'
theorem rscan_out (s : ByteArray) (w : World) (hs : s.size ≤ 65536) :
    Calls Tryd.prog 10 #[.string s] w (RetRO w (outOf s.data.toList)) := by
  unfold outOf
  rw [size_toList]
  cases h : chk (s.size + 1) 0 s.data.toList with
  | some p =>
    exact (rscan_text s w hs p h).mono fun e w' ⟨he, hb⟩ => ⟨⟨_, _, he, World.ownsRow_nil _ _ _ _, World.ownsRow_nil _ _ _ _⟩, hb⟩
  | none =>
    have hg := rscan_good s w hs h
    simp only
    cases h2 : Tom.scan s.data.toList with
    | ok T N =>
      rw [h2] at hg
      exact hg.mono fun e w' h => h
    | bad n =>
      rw [h2] at hg
      exact hg.mono fun e w' ⟨he, hb⟩ => ⟨⟨_, _, he, World.ownsRow_nil _ _ _ _, World.ownsRow_nil _ _ _ _⟩, hb⟩
theorem outOf_len (l : List UInt8) : (outOf l).toks.length ≤ l.length + 1 ∧ (outOf l).notes.length ≤ l.length := by
  unfold outOf
  cases chk (l.length + 1) 0 l with
  | some p => simp
  | none =>
    simp only
    cases h : Tom.scan l with
    | ok T N =>
      have := Tom.scan_bd _ _ _ _ (Nat.le_refl _) h
      exact ⟨this.2.1, this.2.2.1⟩
    | bad n => simp
set_option maxRecDepth 100000 in
set_option maxHeartbeats 4000000 in
theorem tomllexScans_any (s : ByteArray) (zs : s.size ≤ 140737488351232) (w : World) (hT : Lib.Utf8Tabs (Tryd.lays197_ren.g 3) (Tryd.lays197_ren.g 4) w) :
    Calls Tryd.prog 5 #[.string s] w fun e w' => e = .returned (.bool true) ∧ Below w.heap.size w w' := by
  by_cases hs : s.size ≤ 1000
  · have HA := Lib.hid (fun w1 (hb : Below w.heap.size w w1) => scan_out s w1 (by omega) (Utf8Tabs_below hT hb))
    have HR := Lib.hid (fun w1 => rscan_out s w1 (by omega))
    have HW := Lib.hid (fun w1 (hb : Below w.heap.size w w1) => awake_any w1 (Utf8Tabs_below hT hb))
    have hlen := outOf_len s.data.toList
    rw [size_toList] at hlen
    clear hT
    generalize outOf s.data.toList = o at *
    obtain ⟨hl1, hl2⟩ := hlen
    go_enter Tryd.func5, Tryd.ntmps5
    go_wp2_with fail
    refine (HA.out w (Below.refl _ _)).mono ?_
    rintro e w1 ⟨⟨tv, nv, rfl, hot, hon⟩, hb1⟩
    go_wp2_with fail
    refine (HR.out w1).mono ?_
    rintro e w2 ⟨⟨tv2, nv2, rfl, hot2, hon2⟩, hb2⟩
    have hw2 := hb1.trans (hb2.mono hb1.size)
    have hotk := OwnTok.keep hot hb2
    have honk := OwnNote.keep hon hb2
    clear hot hon
    go_wp2_with fail
    refine (HW.out w2 hw2).mono ?_
    rintro e w3 ⟨rfl, k3⟩
    have hw3 := hw2.trans (k3.mono hw2.size)
    have hot3 := OwnTok.keep hotk k3
    have hon3 := OwnNote.keep honk k3
    have hot4 := OwnRTok.keep hot2 k3
    have hon4 := OwnNote.keep hon2 k3
    clear hotk honk hot2 hon2
    go_wp2_with fail
    refine (same_yes w3 _ _ o.toks (row_form hot3) (row_form hot4) (by omega)).mono ?_
    rintro e w4 ⟨rfl, k4⟩
    have hw4 := hw3.trans (k4.mono hw3.size)
    go_wp2_with fail
    refine (notes_yes w4 _ _ o.notes (row_form (OwnNote.keep hon3 k4)) (row_form (OwnNote.keep hon4 k4)) (by omega)).mono ?_
    rintro e w5 ⟨rfl, k5⟩
    have hw5 := hw4.trans (k5.mono hw4.size)
    go_wp2_with fail
    go_ret
    exact ⟨rfl, hw5⟩
  · have HW := Lib.hid (awake_any w hT)
    clear hT
    have h2 : 1000 < (s.size : Int) := by omega
    clear hs
    go_enter Tryd.func5, Tryd.ntmps5
    go_wp2_with fail
    refine HW.out.mono ?_
    rintro e w6 ⟨rfl, k6⟩
    go_wp2_with fail
    go_ret
    exact ⟨rfl, k6⟩
end Go.Proofs.YtdhbljbfjdlcdaaDoor
