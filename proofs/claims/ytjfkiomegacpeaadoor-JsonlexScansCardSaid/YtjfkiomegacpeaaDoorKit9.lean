/-
  Kit, part 9: a small struct in a block of its own: stored whole, loaded whole, handed back; rows of structs.
-/
import Derived.Test.YtjfkiomegacpeaaDoorKit8
namespace Go.Proofs.YtjfkiomegacpeaaDoor
open Go.RowKit
section
variable {P : Program} {ops : Array Oper} {Q : Exit → Act → World → Prop} {rest : List Oper} {o : Oper} {a : Act} {w : World}
theorem rowOf_self (cs : Array Value) : rowOf cs.size (fun j => cs.getD j undef) = cs := by
  apply Array.ext
  · rw [row_size]
  · intro i h1 h2
    have h := row_get cs.size (fun j => cs.getD j undef) i h2
    rw [Array.getElem?_eq_getElem h1] at h
    injection h with h
    rw [h]
    simp [Array.getD, h2]
theorem wpList_store_agg (hgd : o.guard = none) (ty : TypeId) (x y : Operand) (ho : o.op = .store ty x y) (hd : o.dst = none)
    (g : Nat) (cs vs : Array Value) (t : TypeId) (hi : (P.info? ty).map (·.size) = some vs.size) (hs : cs.size = vs.size) (h1 : ∀ j, j < vs.size → (vs.getD j undef).oneCell' = true)
    (hx : a.eval x = .pointer (some ⟨g, 0, none⟩)) (hy : a.eval y = .agg vs) (hg : Blk w g t cs)
    (h : wpList P ops Q rest a (w.setRow g vs)) : wpList P ops Q (o :: rest) a w := by
  have hc := rowOf_self cs
  rw [hs] at hc
  refine wpList_store_all hgd ty x y ho hd g vs.size (fun j => cs.getD j undef) (fun j => vs.getD j undef) t hi h1 hx ?_ ?_ ?_
  · rw [rowOf_self]; exact hy
  · rw [hc]; exact hg
  · rw [rowOf_self]; exact h
theorem one_int (k : IntKind) (n : Int) : (Value.int k n).oneCell' = true := rfl
theorem one_str (s : ByteArray) : (Value.string s).oneCell' = true := rfl
/-- A struct of four cells is stored into its block. -/
theorem wpList_store_four (hgd : o.guard = none) (ty : TypeId) (x y : Operand) (ho : o.op = .store ty x y) (hd : o.dst = none)
    (g : Nat) (z0 z1 z2 z3 v0 v1 v2 v3 : Value) (t : TypeId) (hi : (P.info? ty).map (·.size) = some 4) (h0 : v0.oneCell' = true) (h1 : v1.oneCell' = true) (h2 : v2.oneCell' = true) (h3 : v3.oneCell' = true)
    (hx : a.eval x = .pointer (some ⟨g, 0, none⟩)) (hy : a.eval y = .agg #[v0, v1, v2, v3]) (hg : Blk w g t #[z0, z1, z2, z3])
    (h : wpList P ops Q rest a (w.setRow g #[v0, v1, v2, v3])) : wpList P ops Q (o :: rest) a w :=
  wpList_store_agg hgd ty x y ho hd g #[z0, z1, z2, z3] #[v0, v1, v2, v3] t hi rfl (fun j hj => by
    match j, hj with
    | 0, _ => exact h0
    | 1, _ => exact h1
    | 2, _ => exact h2
    | 3, _ => exact h3) hx hy hg h
theorem results_cell_tmp {fn : Func} {p q : Tmp} {ty : TypeId} (h : fn.results = #[.cell p ty, .tmp q]) (tmps : Array Value) (w : World) (g : Nat) (t : TypeId) (cs : Array Value) (d : TypeDesc) (v : Value)
    (hp : tmps.getD p undef = .pointer (some ⟨g, 0, none⟩)) (hv : tmps.getD q undef = v) (hg : Blk w g t cs)
    (hu : P.underlying ty = some d) (hd : (match d with | .struct _ | .array _ _ => true | _ => false) = true) (hi : (P.info? ty).map (·.size) = some cs.size) :
    (results fn tmps).run P w = .ok (.tuple #[.agg cs, v]) w := by
  have hp' : tmps[p]?.getD undef = .pointer (some ⟨g, 0, none⟩) := by simpa using hp
  have hv' : tmps[q]?.getD undef = v := by simpa using hv
  simp [results, h, hp', hv', asAddr, run_loadVar_row w g t ty cs (0, 0) d hg hu hd hi]
end
theorem ownsRow_below {w w' : World} {base B n size : Nat} {e : TypeId} {v : Value} {xs : List Value} (h : w.ownsRow base e size v n xs) (hb : Below B w w') (hlt : ∀ k, v.ownBlock = some k → k < B) : w'.ownsRow base e size v n xs := by
  refine ⟨h.1, ?_⟩
  rcases h.2 with hn | ⟨g, cap, cur, rfl, hbg, hg, r⟩
  · exact Or.inl hn
  · exact Or.inr ⟨g, cap, cur, rfl, hbg, by rw [hb.block g (hlt g rfl)]; exact hg, r⟩
theorem OwnR.keep {w w' : World} {base n size : Nat} {e : TypeId} {v : Value} {xs : List Value} (h : w.ownsRow base e size v n xs) (hb : Below w.heap.size w w') : w'.ownsRow base e size v n xs :=
  ownsRow_below h hb fun k hk => (World.ownsRow.lt h k hk).2
theorem OwnR.keep2 {w w' : World} {base n size : Nat} {e : TypeId} {v : Value} {xs : List Value} (h : w.ownsRow base e size v n xs) (hb : Below w.heap.size w w') (o : Obj) : (w'.alloc o).ownsRow base e size v n xs :=
  OwnR.keep h (hb.alloc hb.size o)
theorem one_new (w : World) (v : Value) (T : TypeId) : ∀ (j : Nat) u, [v][j]? = some u → (w.alloc (.cells #[v] T)).cell? ⟨w.heap.size, j, none⟩ = some u := by
  intro j u hu
  match j, hu with
  | 0, hu => simp at hu; subst hu; exact cell_one w v T
theorem one_ok (k : IntKind) (x : Int) : ∀ u ∈ [Value.int k x], u.oneCell' = true := by
  intro u hu; simp at hu; subst hu; rfl
theorem new_cells (w : World) (cs : List Value) (T : TypeId) : ∀ (j : Nat) u, cs[j]? = some u → (w.alloc (.cells cs.toArray T)).cell? ⟨w.heap.size, j, none⟩ = some u := by
  intro j u hu
  rw [(Blk.new w T cs.toArray).at_ j]
  simpa using hu
theorem new_cells2 (w : World) (o : Obj) (cs : List Value) (T : TypeId) : ∀ (j : Nat) u, cs[j]? = some u → ((w.alloc o).alloc (.cells cs.toArray T)).cell? ⟨w.heap.size + 1, j, none⟩ = some u := by
  intro j u hu
  have := new_cells (w.alloc o) cs T j u hu
  rwa [World.size_alloc] at this
theorem below_two {B : Nat} {w w' : World} (hb : Below B w w') (h : B ≤ w'.heap.size) (o1 o2 : Obj) : Below B w ((w'.alloc o1).alloc o2) :=
  (hb.alloc h o1).alloc (by rw [World.size_alloc]; omega) o2
end Go.Proofs.YtjfkiomegacpeaaDoor
