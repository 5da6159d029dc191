/-
  digest.Sum of parts.
-/
import Derived.Test.YtlfhijdonejacaaDoorSha6
namespace Go.Proofs.YtlfhijdonejacaaDoor
open Go.RowKit
/-- A slice of strings, its cells below B. -/
def StrRow (w : World) (B : Nat) (v : Value) (l : List ByteArray) : Prop :=
  ∃ p c, v = .slice p l.length c ∧ l.length ≤ c ∧ (l ≠ [] → ∃ g o, p = some ⟨g, o, none⟩ ∧ g < B ∧ ∀ j s, l[j]? = some s → w.cell? ⟨g, o + j, none⟩ = some (.string s))
theorem StrRow.below {w w' : World} {B C : Nat} {v : Value} {l : List ByteArray} (h : StrRow w B v l) (hb : Below C w w') (hBC : B ≤ C) : StrRow w' B v l := by
  obtain ⟨p, c, rfl, hc, h⟩ := h
  refine ⟨p, c, rfl, hc, fun hne => ?_⟩
  obtain ⟨g, o, rfl, hg, hcell⟩ := h hne
  exact ⟨g, o, rfl, hg, fun j s hs => by rw [hb.cell (by show g < C; omega)]; exact hcell j s hs⟩
theorem StrRow.none (w : World) (B : Nat) : StrRow w B (.slice .none 0 0) [] := ⟨.none, 0, rfl, Nat.le_refl _, fun h => absurd rfl h⟩
theorem StrRow.row (w : World) (T : TypeId) (l : List ByteArray) : StrRow (w.alloc (.cells ((l.map Value.string).toArray) T)) (w.alloc (.cells ((l.map Value.string).toArray) T)).heap.size (.slice (some ⟨w.heap.size, 0, .none⟩) l.length l.length) l :=
  ⟨_, _, rfl, Nat.le_refl _, fun _ => ⟨_, _, rfl, by simp only [World.size_alloc]; omega, fun j s hs => by
    rw [Nat.zero_add, (Blk.new w T ((l.map Value.string).toArray)).at_ j, List.getElem?_toArray, List.getElem?_map, hs]
    rfl⟩⟩
def catL (l : List ByteArray) : List UInt8 := l.flatMap (·.data.toList)
theorem catL_succ (l : List ByteArray) (k : Nat) (s : ByteArray) (h : l[k]? = some s) : catL (l.take (k + 1)) = catL (l.take k) ++ s.data.toList := by
  rw [List.take_add_one, h]
  simp [catL]
theorem catL_take_le (l : List ByteArray) (k : Nat) : (catL (l.take k)).length ≤ (catL l).length := by
  conv => rhs; rw [← List.take_append_drop k l]
  simp only [catL, List.flatMap_append, List.length_append]
  omega
set_option maxRecDepth 100000 in
set_option maxHeartbeats 4000000 in
theorem dsum_any (l : List ByteArray) (v : Value) (w : World) (hL : (catL l).length < 288230376151711744) (hn : l.length < 288230376151711744) (hv : StrRow w w.heap.size v l) :
    Calls Tryd.prog 7 #[v] w fun e w' => e = .returned (.string ⟨(sha (catL l)).toArray⟩) ∧ Below w.heap.size w w' := by
  obtain ⟨p, c, rfl, hc, hv⟩ := hv
  go_enter Tryd.func7, Tryd.ntmps7
  go_wp2_with fail
  refine (new_any w).mono ?_
  rintro e w1 ⟨rfl, hb1⟩
  obtain ⟨c0, hc0, _, hc01⟩ := hash_open [] (.agg zeroRow) (.inr ⟨rfl, rfl⟩)
  have hv0 : HashOf [] (.agg (rowOf 74 c0)) := hc0 ▸ .inr ⟨rfl, rfl⟩
  rw [hc0]
  clear hc0
  go_wp2_with (first
    | (with_reducible refine wpList_alloc_sym rfl 28 rfl _ zero33 ?_)
    | ((with_reducible refine wpList_store_all rfl 28 (.tmp 3) (.tmp 6) rfl rfl w1.heap.size 74 _ c0 28 size33 (fun j _ => hc01 j) ?_ ?_ (Blk.new _ _ _) ?_); exact rfl; exact rfl))
  have hB := (Blk.new w1 28 zeroRow).row (rowOf 74 c0)
  have hb := setRow_below ((hb1.alloc hb1.size (.cells zeroRow 28))) hb1.size (rowOf 74 c0)
  have hG := hb1.size
  generalize (w1.alloc (.cells zeroRow 28)).setRow w1.heap.size (rowOf 74 c0) = w2 at hB hb ⊢
  generalize w1.heap.size = G at *
  clear hb1 w1
  go_loopw [9] (fun i wr => ∃ (k : Nat) (cc : Nat → Value), k ≤ l.length ∧ i = .int .i64 k ∧ Blk wr G 28 (rowOf 74 cc) ∧ HashOf (catL (l.take k)) (.agg (rowOf 74 cc)) ∧ Below w.heap.size w wr) (fun i _ => l.length - (intOf i).toNat)
  case atStart => exact ⟨0, c0, by omega, rfl, hB, hv0, hb⟩
  case round =>
    clear hB hv0 hb hc01
    obtain ⟨k, cc, hk, rfl, hB, hH, hb⟩ := hrel
    by_cases hlt : k < l.length
    · obtain ⟨g, o, rfl, hg, hcell⟩ := hv (by intro h0; rw [h0] at hlt; exact absurd hlt (Nat.not_lt_zero _))
      obtain ⟨s, hs⟩ : ∃ s, l[k]? = some s := ⟨l[k], List.getElem?_eq_getElem hlt⟩
      have hck : wr.cell? ⟨g, o + k, none⟩ = some (.string s) := by rw [hb.cell (by show g < w.heap.size; omega)]; exact hcell k s hs
      have hsz : (catL (l.take k)).length + s.size ≤ (catL l).length := by
        have h1 := catL_take_le l (k + 1)
        rw [catL_succ l k s hs, List.length_append, size_toList] at h1
        exact h1
      go_wp2_with ((with_reducible refine wpList_load_seg rfl 28 (.tmp 3) rfl G 0 74 74 cc 28 _ Tryd.underlying28 rfl size33 (by omega) ?_ ?_ ?_); exact rfl; exact hB; simp only [Nat.zero_add])
      refine (write_any _ _ s wr (by omega) hH).mono ?_
      rintro e w3 ⟨v3, rfl, hv3, hb3⟩
      obtain ⟨c3, rfl, _, hc31⟩ := hash_open _ _ hv3
      have hB3 : Blk w3 G 28 (rowOf 74 cc) := hB.below hb3 hB.lt
      have hb3w : Below w.heap.size w w3 := hb.trans (hb3.mono (by have := hb.size; omega))
      clear hB hb hb3
      go_wp2_with ((with_reducible refine wpList_store_all rfl 28 (.tmp 3) (.tmp 15) rfl rfl G 74 cc c3 28 size33 (fun j _ => hc31 j) ?_ ?_ ?_ ?_); exact rfl; exact rfl; exact hB3)
      go_roundw
      case rel =>
        refine ⟨k + 1, c3, by omega, by go_num, hB3.row _, ?_, setRow_below hb3w hG _⟩
        rw [catL_succ l k s hs]
        exact hv3
      case measure => simp [intOf]; omega
    · have hkk : k = l.length := by omega
      rw [hkk, List.take_length] at hH
      clear hkk
      go_wp2_with ((with_reducible refine wpList_load_seg rfl 28 (.tmp 3) rfl G 0 74 74 cc 28 _ Tryd.underlying28 rfl size33 (by omega) ?_ ?_ ?_); exact rfl; exact hB; simp only [Nat.zero_add])
      refine (hsum_any _ _ wr hL hH).mono ?_
      rintro e w3 ⟨rfl, hb3⟩
      go_wp2_with fail
      go_ret
      exact ⟨rfl, hb.trans (hb3.mono (by have := hb.size; omega))⟩
end Go.Proofs.YtlfhijdonejacaaDoor
