/-
  Slices of strings of the call's own.
-/
import Derived.Test.YtjfkiomegacpeaaDoorKit7
namespace Go.Proofs.YtjfkiomegacpeaaDoor
open Go.RowKit
/-- v is a slice of strings of the call's own (blocks from base on) and holds l. -/
def OwnT (w : World) (base : Nat) (e : TypeId) (v : Value) (l : List ByteArray) : Prop := w.ownsRow base e 1 v l.length (l.map Value.string)
theorem OwnT.nil (w : World) (base : Nat) (e : TypeId) : OwnT w base e (.slice none 0 0) [] := World.ownsRow_nil _ _ _ _
theorem OwnT.below {w w' : World} {base B : Nat} {e : TypeId} {v : Value} {l : List ByteArray} (h : OwnT w base e v l) (hb : Below B w w') (hlt : ∀ k, v.ownBlock = some k → k < B) : OwnT w' base e v l := by
  refine ⟨h.1, ?_⟩
  rcases h.2 with hn | ⟨g, cap, cur, rfl, hbg, hg, r⟩
  · exact Or.inl hn
  · exact Or.inr ⟨g, cap, cur, rfl, hbg, by rw [hb.block g (hlt g rfl)]; exact hg, r⟩
theorem OwnT.lt {w : World} {base : Nat} {e : TypeId} {v : Value} {l : List ByteArray} (h : OwnT w base e v l) : ∀ k, v.ownBlock = some k → base ≤ k ∧ k < w.heap.size := fun k hk => World.ownsRow.lt h k hk
theorem OwnT.keep {w w' : World} {base : Nat} {e : TypeId} {v : Value} {l : List ByteArray} (h : OwnT w base e v l) (hb : Below w.heap.size w w') : OwnT w' base e v l := h.below hb fun k hk => (h.lt k hk).2
theorem OwnT.alloc {w : World} {base : Nat} {e : TypeId} {v : Value} {l : List ByteArray} (h : OwnT w base e v l) (o : Obj) : OwnT (w.alloc o) base e v l := h.keep (below_alloc o)
theorem OwnT.form {w : World} {base : Nat} {e : TypeId} {v : Value} {l : List ByteArray} (h : OwnT w base e v l) : (v = .slice none 0 0 ∧ l = []) ∨ ∃ g cap, v = .slice (some ⟨g, 0, none⟩) l.length cap ∧ l.length ≤ cap ∧ base ≤ g ∧ g < w.heap.size := by
  rcases h.2 with ⟨h1, h0⟩ | ⟨g, cap, cur, rfl, hb, hg, hnc, _⟩
  · exact .inl ⟨h1, List.eq_nil_of_length_eq_zero h0⟩
  · exact .inr ⟨g, cap, rfl, hnc, hb, (Array.getElem?_eq_some_iff.1 hg).1⟩
theorem OwnT.cell {w : World} {base : Nat} {e : TypeId} {g n cap : Nat} {l : List ByteArray} (h : OwnT w base e (.slice (some ⟨g, 0, none⟩) n cap) l) (j : Nat) (s : ByteArray) (hs : l[j]? = some s) : w.cell? ⟨g, j, none⟩ = some (.string s) := by
  have hn : n = l.length := by
    rcases h.2 with ⟨h1, _⟩ | ⟨g', cap', cur, h1, _⟩
    · cases h1
    · simp only [Value.slice.injEq] at h1; exact h1.2.1
  subst hn
  have hj := (List.getElem?_eq_some_iff.1 hs).1
  rw [World.ownsRow.cellAt h j (by omega), List.getElem?_map, hs]
  rfl
section
variable {P : Program} {w : World} {ops : Array Oper} {rest : List Oper} {o : Oper} {a : Act} {Q : Exit → Act → World → Prop}
theorem wpList_push_str (hgd : o.guard = none) (s x : Operand) (t : TypeId) (ho : o.op = .call { callee := .builtin .append, args := #[s, x], argTypes := #[t, t] })
    (e : TypeId) (hE : ElemRow P t e (.string ByteArray.empty) 1 16) (base : Nat) (v : Value) (l : List ByteArray) (g c : Nat) (b : ByteArray)
    (hs : a.eval s = v) (hx : a.eval x = .slice (some ⟨g, 0, none⟩) 1 c) (hown : OwnT w base e v l) (hc : w.cell? ⟨g, 0, none⟩ = some (.string b))
    (hn : l.length < 1099511627776) (hbase : base ≤ w.heap.size)
    (h : ∀ v' w', OwnT w' base e v' (l ++ [b]) → Below base w w' → wpList P ops Q rest (a.put o.dst v') w') : wpList P ops Q (o :: rest) a w :=
  wpList_append_one hgd s x t ho e _ 1 16 hE base v l.length (l.map Value.string) g c [.string b] hs hx hown rfl
    (fun j u hu => by
      match j, hu with
      | 0, hu => simp at hu; subst hu; exact hc)
    (fun u hu => by simp at hu; subst hu; rfl) (by omega) (by omega) hbase (fun v' w' h2 _ h4 => h v' w' (by unfold OwnT; rw [List.length_append, List.map_append]; exact h2) h4)
end
end Go.Proofs.YtjfkiomegacpeaaDoor
