/-
  DigestEdges: true at every length and bytes.
-/
import Derived.Test.YtlfhijdonejacaaLaw1
import Derived.Test.YtlfhijdonejacaaKit4
namespace Go.Proofs.Ytlfhijdonejacaa
open Go.RowKit
set_option maxRecDepth 100000 in
set_option maxHeartbeats 4000000 in
theorem digestEdges_any (n f s : Int) (wn : (Lit.int .u8 n).wf = true) (wf : (Lit.int .u8 f).wf = true) (ws : (Lit.int .u8 s).wf = true) (w : World) :
    Calls Try.prog 4 #[.int .u8 n, .int .u8 f, .int .u8 s] w fun e w' => e = .returned (.bool true) ∧ Below w.heap.size w w' := by
  have hn : 0 ≤ n ∧ n ≤ 255 := by simpa [Lit.wf, IntKind.min, IntKind.max, IntKind.signed, IntKind.bits] using wn
  have hf : 0 ≤ f ∧ f ≤ 255 := by simpa [Lit.wf, IntKind.min, IntKind.max, IntKind.signed, IntKind.bits] using wf
  have hs : 0 ≤ s ∧ s ≤ 255 := by simpa [Lit.wf, IntKind.min, IntKind.max, IntKind.signed, IntKind.bits] using ws
  go_enter Try.func4, Try.ntmps4
  go_wp2_with fail
  go_loopw [9, 7, 1] (fun i v y wr => ∃ (k : Nat) (l : List UInt8) (y' : Int), (k : Int) ≤ n ∧ i = .int .u8 k ∧ l.length = k ∧ OwnB wr w.heap.size 5 v l ∧ y = .int .u8 y' ∧ 0 ≤ y' ∧ y' ≤ 255 ∧ Below w.heap.size w wr) (fun i _ _ _ => n.toNat - (intOf i).toNat)
  case atStart => exact ⟨0, [], f, by omega, rfl, rfl, OwnB.nil _ _ _, rfl, hf.1, hf.2, Below.refl _ _⟩
  case round =>
    obtain ⟨k, l, y', hk, rfl, hlk, hown, rfl, hy0, hy1, hb⟩ := hrel
    have HK := Lib.hid hlk
    have hl255 : l.length ≤ 255 := by omega
    clear hlk
    by_cases hlt : (k : Int) < n
    · have hbyte : ((UInt8.ofNat y'.toNat).toNat : Int) = y' := by rw [UInt8.toNat_ofNat']; omega
      have HB := Lib.hid hbyte
      clear hbyte
      go_wp2_with ((with_reducible refine wpList_push_byte rfl _ _ 26 rfl 5 byteRow w.heap.size _ _ wr.heap.size 1 (UInt8.ofNat y'.toNat) ?_ ?_ (OwnB.alloc hown _) ?_ ?_ ?_ ?_); exact rfl; exact rfl; (rw [HB.out]; exact cell_one _ _ _); omega; (simp only [World.size_alloc]; have := hb.size; omega))
      intro v5 w5 hown5 _ hb5
      have hb6 : Below w.heap.size w w5 := (hb.alloc hb.size _).trans hb5
      go_wp2_with fail
      go_roundw
      case rel => exact ⟨k + 1, l ++ [UInt8.ofNat y'.toNat], (y' + s) % 256, by omega, by go_num, by rw [List.length_append, HK.out]; rfl, hown5, by go_num, by omega, by omega, hb6⟩
      case measure => simp [intOf]; omega
    · go_wp2_with fail
      have hconv : ∀ w' : World, OwnB w' w.heap.size 5 u7 l → (convert 26 9 u7).run Try.prog w' = .ok (.string ⟨l.toArray⟩) w' :=
        fun w' h => run_own_string _ _ 5 under26 (by kernel_rfl) (by kernel_rfl) w.heap.size u7 l h
      have hcat : catL [⟨l.toArray⟩] = l := by simp [catL]
      have hlen : (catL [⟨l.toArray⟩]).length < 288230376151711744 := by rw [hcat]; omega
      have hsz : (⟨l.toArray⟩ : ByteArray).size < 1048576 := by show (List.toArray l).size < _; rw [List.size_toArray]; omega
      go_region_held_law (fun w' => OwnB w' w.heap.size 5 u7 l ∧ Below w.heap.size w w') (first | exact ⟨hown, hb.drew⟩ | exact keepB (by assumption) (by assumption) | exact keepB (below_alloc _) (by assumption))
        (first
          | (go_at_call 8; refine (awake_any _).mono ?_; rintro e w' ⟨rfl, hbw⟩)
          | (go_at_call 9; refine (dsum_any [⟨l.toArray⟩] _ _ hlen (by show 1 < _; decide) (StrRow.row _ _ [⟨l.toArray⟩])).mono ?_; rintro e w' ⟨rfl, hbw⟩; rw [hcat])
          | (go_at_call 10; refine (rsum_any ⟨l.toArray⟩ _ hsz).mono ?_; rintro e w' ⟨rfl, hbw⟩))
      go_wp2_with fail
      go_ret
      exact ⟨rfl, And.right (by assumption : OwnB w' w.heap.size 5 u7 l ∧ Below w.heap.size w w')⟩
end Go.Proofs.Ytlfhijdonejacaa
