/-
  tomllex.Scan by its contract.
-/
import Derived.Test.YtdhbljbfjdlcdaaDoorTomO
import Derived.Test.YtdhbljbfjdlcdaaDoorDec
namespace Go.Proofs.YtdhbljbfjdlcdaaDoor
open Go.RowKit
def tokCells (t : Tom.T) : List Value := [.int .i64 (t.kind : Int), .int .i64 (t.frm : Int), .int .i64 (t.to : Int), .string ⟨t.text.toArray⟩]
def noteCells (t : Tom.Note) : List Value := [.int .i64 (t.frm : Int), .int .i64 (t.to : Int), .string ⟨t.text.toArray⟩]
def OwnTok (w : World) (base : Nat) (v : Value) (ts : List Tom.T) : Prop := w.ownsRow base 30 4 v ts.length (ts.flatMap tokCells)
def OwnNote (w : World) (base : Nat) (v : Value) (ns : List Tom.Note) : Prop := w.ownsRow base 39 3 v ns.length (ns.flatMap noteCells)
theorem tokRowE : ElemRow Tryd.prog 23 30 (.agg #[.int .i64 0, .int .i64 0, .int .i64 0, .string ⟨#[]⟩]) 4 40 := ⟨Tryd.underlying23, by kernel_rfl, rfl, by decide⟩
theorem noteRowE : ElemRow Tryd.prog 24 39 (.agg #[.int .i64 0, .int .i64 0, .string ⟨#[]⟩]) 3 32 := ⟨Tryd.underlying24, by kernel_rfl, rfl, by decide⟩
def RetS (w : World) : Tom.Res → Go.Ending → World → Prop
  | .ok ts ns, e, w' => (∃ tv nv, e = .returned (.tuple #[tv, nv, .int .i64 0, .int .i64 0]) ∧ OwnTok w' w.heap.size tv ts ∧ OwnNote w' w.heap.size nv ns) ∧ Below w.heap.size w w'
  | .bad n, e, w' => e = .returned (.tuple #[.slice none 0 0, .slice none 0 0, .int .i64 (n : Int), .int .i64 4]) ∧ Below w.heap.size w w'
theorem RetS_bad {w w' : World} {n : Nat} {v : Int} (h : v = n) (hb : Below w.heap.size w w') : RetS w (.bad n) (.returned (.tuple #[.slice none 0 0, .slice none 0 0, .int .i64 v, .int .i64 4])) w' := by
  subst h; exact ⟨rfl, hb⟩
theorem check_text (s : ByteArray) (w : World) (hs : s.size ≤ 65536) (hT : Lib.Utf8Tabs (Tryd.lays197_ren.g 3) (Tryd.lays197_ren.g 4) w) (p : Nat) (h : chk (s.size + 1) 0 s.data.toList = some p) :
    Calls Tryd.prog 17 #[.string s] w fun e w' => e = .returned (.tuple #[.int .i64 p, .int .i64 11]) ∧ Below w.heap.size w w' := by
  have := check_any s w (by omega) hT
  rw [h] at this
  exact this
theorem check_good (s : ByteArray) (w : World) (hs : s.size ≤ 65536) (hT : Lib.Utf8Tabs (Tryd.lays197_ren.g 3) (Tryd.lays197_ren.g 4) w) (h : chk (s.size + 1) 0 s.data.toList = none) :
    Calls Tryd.prog 17 #[.string s] w fun e w' => e = .returned (.tuple #[.int .i64 (-1), .int .i64 0]) ∧ Below w.heap.size w w' := by
  have := check_any s w (by omega) hT
  rw [h] at this
  exact this
set_option maxRecDepth 100000 in
set_option maxHeartbeats 4000000 in
theorem scan_text (s : ByteArray) (w : World) (hs : s.size ≤ 65536) (hT : Lib.Utf8Tabs (Tryd.lays197_ren.g 3) (Tryd.lays197_ren.g 4) w) (p : Nat) (h : chk (s.size + 1) 0 s.data.toList = some p) :
    Calls Tryd.prog 9 #[.string s] w fun e w' => e = .returned (.tuple #[.slice none 0 0, .slice none 0 0, .int .i64 p, .int .i64 11]) ∧ Below w.heap.size w w' := by
  have HC := Lib.hid (check_text s w hs hT p h)
  clear hT h
  go_enter Tryd.func9, Tryd.ntmps9
  go_wp2_with (go_at_call 17; refine HC.out.mono ?_; rintro e w3 ⟨rfl, hb3⟩)
  refine bodyPost_ret (v := .tuple #[.slice none 0 0, .slice none 0 0, .int .i64 p, .int .i64 11]) (by simp [results, Tryd.results9, go_sem]) rfl ⟨rfl, hb3⟩
theorem OwnTok.keep {w w' : World} {base : Nat} {v : Value} {ts : List Tom.T} (h : OwnTok w base v ts) (hb : Below w.heap.size w w') : w'.ownsRow base 30 4 v ts.length (ts.flatMap tokCells) := OwnR.keep h hb
theorem OwnNote.keep {w w' : World} {base : Nat} {v : Value} {ts : List Tom.Note} (h : OwnNote w base v ts) (hb : Below w.heap.size w w') : w'.ownsRow base 39 3 v ts.length (ts.flatMap noteCells) := OwnR.keep h hb
theorem note3_ok (a b : Int) (x : ByteArray) : ∀ u ∈ [Value.int .i64 a, .int .i64 b, .string x], u.oneCell' = true := by
  intro u hu
  simp only [List.mem_cons, List.not_mem_nil, or_false] at hu
  rcases hu with rfl | rfl | rfl <;> rfl
theorem cmt_round (j : Nat) (L : List UInt8) (c : UInt8) (h : L.drop j = c :: L.drop (j + 1)) :
    Tom.cmt (L.drop j) = if 0 < Tom.lineEnd (L.drop j) then (0, true) else if Tom.control c then (0, false) else ((Tom.cmt (L.drop (j + 1))).1 + 1, (Tom.cmt (L.drop (j + 1))).2) := by
  generalize L.drop (j + 1) = r at h
  generalize L.drop j = l at h
  subst h
  rfl
theorem cmt_hash (r : List UInt8) : 1 ≤ (Tom.cmt (35 :: r)).1 := by
  have e : Tom.cmt (35 :: r) = ((Tom.cmt r).1 + 1, (Tom.cmt r).2) := by
    show (if 0 < Tom.lineEnd (35 :: r) then _ else if Tom.control 35 then _ else _) = _
    rfl
  rw [e]
  simp
theorem RetS_ok {w w' : World} {ts : List Tom.T} {ns : List Tom.Note} {tv nv : Value} (h1 : OwnTok w' w.heap.size tv ts) (h2 : OwnNote w' w.heap.size nv ns) (hb : Below w.heap.size w w') : RetS w (.ok ts ns) (.returned (.tuple #[tv, nv, .int .i64 0, .int .i64 0])) w' :=
  ⟨⟨tv, nv, rfl, h1, h2⟩, hb⟩
theorem tok_ok (t : Tom.T) : ∀ u ∈ tokCells t, u.oneCell' = true := by
  intro u hu
  simp only [tokCells, List.mem_cons, List.not_mem_nil, or_false] at hu
  rcases hu with rfl | rfl | rfl | rfl <;> rfl
theorem note_ok (t : Tom.Note) : ∀ u ∈ noteCells t, u.oneCell' = true := by
  intro u hu
  simp only [noteCells, List.mem_cons, List.not_mem_nil, or_false] at hu
  rcases hu with rfl | rfl | rfl <;> rfl
theorem OwnTok.snoc {w : World} {base : Nat} {v : Value} {ts : List Tom.T} {t : Tom.T} (h : w.ownsRow base 30 4 v (ts.length + 1) (ts.flatMap tokCells ++ tokCells t)) : OwnTok w base v (ts ++ [t]) := by
  unfold OwnTok
  rw [List.length_append, List.flatMap_append]
  simpa using h
theorem OwnNote.snoc {w : World} {base : Nat} {v : Value} {ts : List Tom.Note} {t : Tom.Note} (h : w.ownsRow base 39 3 v (ts.length + 1) (ts.flatMap noteCells ++ noteCells t)) : OwnNote w base v (ts ++ [t]) := by
  unfold OwnNote
  rw [List.length_append, List.flatMap_append]
  simpa using h
theorem token_from (s : ByteArray) (n : Nat) (w : World) (hn : n < s.size) (hs : s.size ≤ 1099511627) :
    Calls Tryd.prog 22 #[.string (s.extract n s.size)] w (RetT w (Tom.token (s.data.toList.drop n))) := by
  have h := token_any (s.extract n s.size) w (by rw [ext_size]; omega) (by rw [ext_size]; omega)
  rwa [Lib.extract_to_end] at h
theorem scan_round (f p : Nat) (ts : List Tom.T) (ns : List Tom.Note) (L : List UInt8) (c : UInt8) (h : L.drop p = c :: L.drop (p + 1)) :
    Tom.scanLoop (f + 1) p ts ns (L.drop p) =
      if 0 < Tom.run Tom.blank (L.drop p) then Tom.scanLoop f (p + Tom.run Tom.blank (L.drop p)) ts ns (L.drop (p + Tom.run Tom.blank (L.drop p)))
      else if c == 35 then
        if (Tom.cmt (L.drop p)).2 then Tom.scanLoop f (p + (Tom.cmt (L.drop p)).1) ts (ns ++ [⟨p, p + (Tom.cmt (L.drop p)).1, (L.drop p).take (Tom.cmt (L.drop p)).1⟩]) (L.drop (p + (Tom.cmt (L.drop p)).1))
        else .bad (p + (Tom.cmt (L.drop p)).1)
      else match Tom.token (L.drop p) with
        | .ok k n t => Tom.scanLoop f (p + n) (ts ++ [⟨k, p, p + n, t⟩]) ns (L.drop (p + n))
        | .bad n => .bad (p + n) := by
  simp only [← List.drop_drop]
  generalize L.drop p = l at h
  generalize hr : L.drop (p + 1) = r at h
  subst h
  rfl
end Go.Proofs.YtdhbljbfjdlcdaaDoor
