/-
  tomllex.content: what its walk needs.
-/
import Derived.Test.YtdhbljbfjdlcdaaDoorTomJ
import Derived.Test.YtdhbljbfjdlcdaaDoorTom1
namespace Tom
/-- The end of a string: up to n more quotes belong to it. -/
def fin (q : List UInt8) (many : Bool) (l : List UInt8) : Nat → Nat → List UInt8 → Cont
  | 0, at_, out => .ok out (at_ + q.length)
  | n + 1, at_, out => if many && starts q (l.drop (at_ + 1)) then fin q many l n (at_ + 1) (out ++ [q.headD 0]) else fin q many l n at_ out
theorem fin_eq (q : List UInt8) (many : Bool) (l : List UInt8) (k : Nat) (out : List UInt8) :
    fin q many l 2 k out = .ok (out ++ List.replicate (if many && starts q (l.drop (k + 1)) then (if starts q ((l.drop (k + 1)).drop 1) then 2 else 1) else 0) (q.headD 0))
      (k + (if many && starts q (l.drop (k + 1)) then (if starts q ((l.drop (k + 1)).drop 1) then 2 else 1) else 0) + q.length) := by
  rw [List.drop_drop]
  cases many with
  | false => simp [fin]
  | true =>
    cases h1 : starts q (l.drop (k + 1)) with
    | false => simp [fin, h1]
    | true =>
      cases h2 : starts q (l.drop (k + 1 + 1)) with
      | false => simp [fin, h1, h2]
      | true => simp [fin, h1, h2, List.replicate, Nat.add_assoc]
theorem cont_round (q : List UInt8) (many : Bool) (f at_ : Nat) (out L : List UInt8) (c : UInt8) (h : L.drop at_ = c :: L.drop (at_ + 1)) :
    contLoop q many (f + 1) at_ out (L.drop at_) =
      if starts q (L.drop at_) then fin q many L 2 at_ out
      else if many && decide (0 < lineEnd (L.drop at_)) then contLoop q many f (at_ + lineEnd (L.drop at_)) (out ++ [10]) (L.drop (at_ + lineEnd (L.drop at_)))
      else if control c then .bad at_
      else if c == 92 && q.headD 0 == 34 then
        if many && decide (0 < folded (L.drop at_)) then contLoop q many f (at_ + folded (L.drop at_)) out (L.drop (at_ + folded (L.drop at_)))
        else match escape (L.drop at_) with
          | some (t, n) => contLoop q many f (at_ + n) (out ++ t) (L.drop (at_ + n))
          | none => .bad at_
      else contLoop q many f (at_ + 1) (out ++ [c]) (L.drop (at_ + 1)) := by
  rw [fin_eq]
  simp only [← List.drop_drop]
  have e : L.drop (at_ + 1) = (L.drop at_).drop 1 := by rw [List.drop_drop]
  rw [e] at h
  generalize L.drop at_ = l at h
  clear e
  obtain ⟨r, hr⟩ : ∃ r, l = c :: r := ⟨_, h⟩
  subst hr
  rfl
end Tom
namespace Go.Proofs.YtdhbljbfjdlcdaaDoor
open Go.RowKit
theorem starts_pre (l q : List UInt8) : Lib.hasPrefix l q = Tom.starts q l := rfl
theorem prefix_from (s q : ByteArray) (n : Nat) (w : World) :
    Calls Tryd.prog 38 #[.string (s.extract n s.size), .string q] w fun e w' => e = .returned (.bool (Tom.starts q.data.toList (s.data.toList.drop n))) ∧ w = w' := by
  have h := Tryd.strings_HasPrefix (s.extract n s.size) q w
  rw [Lib.extract_to_end, starts_pre] at h
  exact h.mono (fun e w' h => ⟨h.1, h.2.symm⟩)
theorem folded_from (s : ByteArray) (n : Nat) (w : World) (hn : n < s.size) (hs : s.size ≤ 140737488351232) :
    Calls Tryd.prog 70 #[.string (s.extract n s.size)] w fun e w' => e = .returned (.int .i64 (Tom.folded (s.data.toList.drop n) : Nat)) ∧ w = w' := by
  have h := folded_any (s.extract n s.size) w (by rw [ext_size]; omega) (by rw [ext_size]; omega)
  rwa [Lib.extract_to_end] at h
theorem escape_from (s : ByteArray) (n : Nat) (w : World) (hs : s.size ≤ 140737488351232) :
    Calls Tryd.prog 71 #[.string (s.extract n s.size)] w (RetE w (Tom.escape (s.data.toList.drop n))) := by
  have h := escape_any (s.extract n s.size) w (by rw [ext_size]; omega)
  rwa [Lib.extract_to_end] at h
theorem Bld.keep {w w' : World} {base b : Nat} {l : List UInt8} (h : Bld w base b l) (hb : Below w.heap.size w w') : Bld w' base b l := by
  obtain ⟨hB, p, v, hp, hk, hown⟩ := h
  exact ⟨hB, p, v, hp, hk.below hb hk.lt, hown.keep hb⟩
theorem writeList_any (base b : Nat) (l t : List UInt8) (w : World) (h : Bld w base b l) (hl : l.length + t.length < 1099511627776) (hbw : base ≤ w.heap.size) :
    Calls Tryd.prog 66 #[.pointer (some ⟨b, 0, none⟩), .string ⟨t.toArray⟩] w fun e w' => e = .returned (.tuple #[.int .i64 (t.length : Nat), .nilIface]) ∧ BldU w' base b (l ++ t) ∧ Below base w w' := by
  have e : (⟨t.toArray⟩ : ByteArray).size = t.length := by rw [← size_toList]
  have := writeString_any base b l ⟨t.toArray⟩ w h (by rw [e]; exact hl) hbw
  rw [e] at this
  exact this
/-- What content returns. -/
def contOf : Tom.Cont → ByteArray × Int × Int
  | .ok t n => (⟨t.toArray⟩, (n : Int), -1)
  | .bad n => (⟨#[]⟩, 0, (n : Int))
  | .open_ => (⟨#[]⟩, 0, 0)
def RetC (w : World) (c : Tom.Cont) (e : Go.Ending) (w' : World) : Prop := e = .returned (.tuple #[.string (contOf c).1, .int .i64 (contOf c).2.1, .int .i64 (contOf c).2.2]) ∧ Below w.heap.size w w'
theorem retC_ok {w w' : World} {o : List UInt8} {n : Nat} {a : Int} (h : (n : Int) = a) (hb : Below w.heap.size w w') : RetC w (.ok o n) (.returned (.tuple #[.string ⟨o.toArray⟩, .int .i64 a, .int .i64 (-1)])) w' := by
  subst h; exact ⟨rfl, hb⟩
theorem retC_bad {w w' : World} {n : Nat} (hb : Below w.heap.size w w') : RetC w (.bad n) (.returned (.tuple #[.string ⟨#[]⟩, .int .i64 0, .int .i64 (n : Int)])) w' := ⟨rfl, hb⟩
theorem retC_open {w w' : World} (hb : Below w.heap.size w w') : RetC w .open_ (.returned (.tuple #[.string ⟨#[]⟩, .int .i64 0, .int .i64 0])) w' := ⟨rfl, hb⟩
end Go.Proofs.YtdhbljbfjdlcdaaDoor
