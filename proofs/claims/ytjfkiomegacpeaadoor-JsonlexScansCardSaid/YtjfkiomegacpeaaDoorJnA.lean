/-
  ref04's digits by its contract.
-/
import Derived.Test.YtjfkiomegacpeaaDoorJsD
import Derived.Test.YtjfkiomegacpeaaDoorKit9
namespace Go.Proofs.YtjfkiomegacpeaaDoor
open Go.RowKit
theorem intRow : ElemRow Tryd.prog 44 3 (.int .i64 0) 1 8 := ⟨Tryd.underlying44, by kernel_rfl, rfl, by decide⟩
def RetDg (w : World) (p n : Nat) (e : Go.Ending) (w' : World) : Prop :=
  (∃ (v : Value) (l : List Nat), e = .returned (.tuple #[v, .int .i64 ((p + n : Nat) : Int)]) ∧ l.length = n ∧ (∀ x ∈ l, x ≤ 9) ∧ OwnN w' w.heap.size 3 v l) ∧ Below w.heap.size w w'
set_option maxRecDepth 100000 in
set_option maxHeartbeats 4000000 in
theorem rdigits_any (s : ByteArray) (p : Nat) (w : World) (hs : s.size ≤ 1099511627) (hp : p ≤ s.size) :
    Calls Tryd.prog 25 #[.string s, .int .i64 (p : Int)] w (RetDg w p (Jsn.run Jsn.dig (s.data.toList.drop p))) := by
  obtain ⟨n, hn⟩ : ∃ n, n = Jsn.run Jsn.dig (s.data.toList.drop p) := ⟨_, rfl⟩
  rw [← hn]
  have HN : Hid (p + n = p + Jsn.run Jsn.dig (s.data.toList.drop p)) := Lib.hid (by rw [hn])
  clear hn
  go_enter Tryd.func25, Tryd.ntmps25
  go_wp2
  go_loopg [1, 6] (s.size - p) (fun g at_ ov wr => ∃ (q : Nat) (l : List Nat) (v : Value), q + g = s.size ∧ at_ = .int .i64 q ∧ ov = v ∧ p ≤ q ∧ p + l.length = q ∧ (∀ x ∈ l, x ≤ 9) ∧ Hid (p + n = q + Jsn.run Jsn.dig (s.data.toList.drop q)) ∧ OwnN wr w.heap.size 3 v l ∧ Below w.heap.size w wr)
  case atStart => exact ⟨p, [], _, by omega, rfl, rfl, Nat.le_refl _, rfl, fun x hx => absurd hx List.not_mem_nil, HN, OwnN.nil _ _ _, Below.refl _ _⟩
  case round =>
    clear HN
    obtain ⟨q, l, v, hg, rfl, hv, hpq, hpl, h9, HM, hown, hbel⟩ := hrel
    subst hv
    have H9 := Lib.hid h9
    clear h9
    by_cases hj : q < s.size
    · have e1 := drop_at s q hj
      have hM := HM.out
      rw [e1, Jsn.run_cons] at hM
      rcases dig_test s[q] with ⟨hd, c1, c2⟩ | ⟨hd, c1⟩
      · rw [hd, if_pos rfl] at hM
        have HM2 : Hid (p + n = (q + 1) + Jsn.run Jsn.dig (s.data.toList.drop (q + 1))) := Lib.hid (by omega)
        have hdv : ((s[q].toNat - 48 : Nat) : Int) = (s[q].toNat : Int) - 48 := by omega
        have hd9 : s[q].toNat - 48 ≤ 9 := by omega
        have H9' : Hid (∀ x ∈ l ++ [s[q].toNat - 48], x ≤ 9) := Lib.hid (fun x hx => by
          rcases List.mem_append.1 hx with hx | hx
          · exact H9.out x hx
          · rw [List.mem_singleton] at hx; omega)
        have hbs := hbel.size
        clear hM HM e1 hd H9
        go_wp2_with ((with_reducible refine wpList_push_nat rfl (.tmp 23) (.tmp 29) 44 rfl 3 intRow w.heap.size _ l wr.heap.size 1 (s[q].toNat - 48) ?_ ?_ (OwnN.alloc hown _) ?_ ?_ ?_ ?_); exact rfl; exact rfl; (rw [hdv]; exact one_new _ _ _ 0 _ rfl); omega; exact Nat.le_trans hbs (below_alloc (w := wr) _).size)
        intro v' w4 hown4 hb4
        go_wp2
        go_roundg (s.size - (q + 1))
        case measure => omega
        case rel => exact ⟨q + 1, _, v', by omega, by go_num, rfl, by omega, by rw [List.length_append]; simp only [List.length_singleton]; omega, H9'.out, HM2, hown4, (hbel.alloc hbs _).trans hb4⟩
      · rw [hd, if_neg (by simp)] at hM
        have HM2 : Hid (p + n = q) := Lib.hid (by omega)
        clear hM HM e1 hd
        go_wp2
        all_goals first
          | (exfalso; omega)
          | (go_ret2; exact ⟨⟨_, l, congrArg (fun z : Nat => Go.Ending.returned (.tuple #[_, .int .i64 (z : Int)])) HM2.out.symm, by have := HM2.out; omega, H9.out, hown⟩, hbel⟩)
    · have hM := HM.out
      rw [List.drop_of_length_le (by rw [size_toList]; omega), Jsn.run_nil] at hM
      have HM2 : Hid (p + n = q) := Lib.hid (by omega)
      clear hM HM
      go_wp2
      go_ret2
      exact ⟨⟨_, l, congrArg (fun z : Nat => Go.Ending.returned (.tuple #[_, .int .i64 (z : Int)])) HM2.out.symm, by have := HM2.out; omega, H9.out, hown⟩, hbel⟩
end Go.Proofs.YtjfkiomegacpeaaDoor
