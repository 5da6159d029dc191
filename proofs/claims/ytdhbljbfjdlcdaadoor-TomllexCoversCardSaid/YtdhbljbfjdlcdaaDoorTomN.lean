/-
  tomllex.token by its contract.
-/
import Derived.Test.YtdhbljbfjdlcdaaDoorTomM
import Derived.Test.YtdhbljbfjdlcdaaDoorTomR
namespace Go.Proofs.YtdhbljbfjdlcdaaDoor
open Go.RowKit
def RetT (w : World) : Tom.Tok → Go.Ending → World → Prop
  | .ok k n t, e, w' => e = .returned (.tuple #[.agg #[.int .i64 (k : Int), .int .i64 0, .int .i64 (n : Int), .string ⟨t.toArray⟩], .int .i64 (-1)]) ∧ Below w.heap.size w w'
  | .bad n, e, w' => ∃ (k m : Int) (t : ByteArray), e = .returned (.tuple #[.agg #[.int .i64 k, .int .i64 0, .int .i64 m, .string t], .int .i64 (n : Int)]) ∧ Below w.heap.size w w'
theorem RetT.ok {w w' : World} {k n : Nat} {t : List UInt8} {x : ByteArray} {K N : Int} (hk : K = k) (hn : N = n) (hx : x = ⟨t.toArray⟩) (hb : Below w.heap.size w w') :
    RetT w (.ok k n t) (.returned (.tuple #[.agg #[.int .i64 K, .int .i64 0, .int .i64 N, .string x], .int .i64 (-1)])) w' := by
  subst hk; subst hn; subst hx; exact ⟨rfl, hb⟩
theorem RetT.bad {w w' : World} {n : Nat} {k m N : Int} {t : ByteArray} (hn : N = n) (hb : Below w.heap.size w w') :
    RetT w (.bad n) (.returned (.tuple #[.agg #[.int .i64 k, .int .i64 0, .int .i64 m, .string t], .int .i64 N])) w' := by
  subst hn; exact ⟨k, m, t, rfl, hb⟩
set_option maxRecDepth 100000 in
set_option maxHeartbeats 4000000 in
theorem token_line (s : ByteArray) (w : World) (n : Nat) (hn : 0 < n) (hl : n = Tom.lineEnd s.data.toList) :
    Calls Tryd.prog 22 #[.string s] w (RetT w (.ok 1 n [])) := by
  have HL := lineEnd_any s
  rw [← hl] at HL
  have HL := Lib.hid HL
  clear hl
  have h0 : (0 : Int) < n := by omega
  go_enter Tryd.func22, Tryd.ntmps22
  go_wp2_with (go_at_call 20; refine ((HL.out _).mono ?_); rintro e w3 ⟨rfl, rfl⟩)
  refine bodyPost_ret (v := .tuple #[.agg #[.int .i64 1, .int .i64 0, .int .i64 n, .string ⟨#[]⟩], .int .i64 (-1)]) (by simp [results, Tryd.results22, go_sem]) rfl ?_
  exact RetT.ok rfl rfl rfl (below_alloc _)
theorem punct_any (c : UInt8) (w : World) :
    ∃ i : Int, (0 ≤ i ↔ ([91, 93, 123, 125, 44, 61, 46] : List UInt8).contains c = true) ∧ Calls Tryd.prog 39 #[.string ⟨#[91, 93, 123, 125, 44, 61, 46]⟩, .int .u8 (c.toNat : Int)] w fun e w' => e = .returned (.int .i64 i) ∧ w = w' := by
  have h := Tryd.strings_IndexByte ⟨#[91, 93, 123, 125, 44, 61, 46]⟩ (c.toNat : Int) w
  refine ⟨_, ?_, h.mono (fun e w' h => ⟨h.1, h.2.symm⟩)⟩
  clear h w
  revert c
  refine bytes_all ?_
  decide +kernel
theorem byte_ne {c : UInt8} (n : UInt8) (h : c ≠ n) : ((c.toNat : Int) == (n.toNat : Int)) = false :=
  beq_eq_false_iff_ne.2 fun e => h (UInt8.toNat_inj.1 (Int.ofNat.inj e))
theorem toArr (s : ByteArray) : s = ⟨s.data.toList.toArray⟩ := rfl
theorem ext0 (s : ByteArray) (n : Nat) : s.extract 0 n = ⟨(s.data.toList.take n).toArray⟩ := by
  have h := ext_part s 0 n
  rw [Nat.zero_add] at h
  rw [← List.drop_zero (l := s.data.toList), ← h]
set_option maxRecDepth 100000 in
set_option maxHeartbeats 4000000 in
theorem token_punct (s : ByteArray) (w : World) (h1 : 0 < s.size) (hl : 0 = Tom.lineEnd s.data.toList) (hp : ([91, 93, 123, 125, 44, 61, 46] : List UInt8).contains s[0] = true) :
    Calls Tryd.prog 22 #[.string s] w (RetT w (.ok 2 1 [s[0]])) := by
  have HL := lineEnd_any s
  rw [← hl] at HL
  have HL := Lib.hid HL
  obtain ⟨i, hi0, HI⟩ := punct_any s[0] (w.alloc (.cells #[.int .i64 0, .int .i64 0, .int .i64 0, .string ⟨#[]⟩] 30))
  have HI := Lib.hid HI
  have hi := hi0.2 hp
  clear hi0
  have hE : s.extract 0 1 = ⟨[s[0]].toArray⟩ := by
    rw [ext0]
    have a0 : s.data.toList.drop 0 = s[0] :: s.data.toList.drop 1 := List.drop_eq_getElem_cons (by rw [size_toList]; exact h1)
    rw [List.drop_zero] at a0
    conv => lhs; rw [a0]
    rfl
  have HE := Lib.hid hE
  clear hl hp hE
  go_enter Tryd.func22, Tryd.ntmps22
  go_wp2_with (first
    | (go_at_call 20; refine ((HL.out _).mono ?_); rintro e w3 ⟨rfl, rfl⟩)
    | (go_at_call 39; refine (HI.out.mono ?_); rintro e w3 ⟨rfl, rfl⟩))
  refine bodyPost_ret (v := .tuple #[.agg #[.int .i64 2, .int .i64 0, .int .i64 1, .string (s.extract 0 1)], .int .i64 (-1)]) (by simp [results, Tryd.results22, go_sem]) rfl ?_
  exact RetT.ok rfl rfl HE.out (below_alloc _)
set_option maxRecDepth 100000 in
set_option maxHeartbeats 4000000 in
theorem token_bare (s : ByteArray) (w : World) (h1 : 0 < s.size) (hs : s.size ≤ 140737488351232) (hl : 0 = Tom.lineEnd s.data.toList) (hp : ([91, 93, 123, 125, 44, 61, 46] : List UInt8).contains s[0] = false) (hb : Tom.bare s[0] = true) :
    Calls Tryd.prog 22 #[.string s] w (RetT w (.ok 3 (Tom.run Tom.bare s.data.toList) (s.data.toList.take (Tom.run Tom.bare s.data.toList)))) := by
  have HL := lineEnd_any s
  rw [← hl] at HL
  have HL := Lib.hid HL
  obtain ⟨i, hi0, HI⟩ := punct_any s[0] (w.alloc (.cells #[.int .i64 0, .int .i64 0, .int .i64 0, .string ⟨#[]⟩] 30))
  have HI := Lib.hid HI
  have hi : ¬ (0 ≤ i) := fun h => absurd ((hi0.1 h).symm.trans hp) (by decide)
  clear hi0
  have HB := fun w => bare_any s[0] w
  rw [hb] at HB
  have HB := Lib.hid HB
  have HR := fun w => run_bare s w hs
  obtain ⟨n, hn⟩ : ∃ n, n = Tom.run Tom.bare s.data.toList := ⟨_, rfl⟩
  have hns : n ≤ s.size := by
    rw [hn, ← size_toList]; exact Tom.run_le _ _
  rw [← hn] at HR ⊢
  have HR := Lib.hid HR
  clear hl hp hb hn
  go_enter Tryd.func22, Tryd.ntmps22
  go_wp2_with (first
    | (go_at_call 20; refine ((HL.out _).mono ?_); rintro e w3 ⟨rfl, rfl⟩)
    | (go_at_call 39; refine (HI.out.mono ?_); rintro e w3 ⟨rfl, rfl⟩)
    | (go_at_call 40; refine ((HB.out _).mono ?_); rintro e w3 ⟨rfl, rfl⟩)
    | (go_at_call 18; refine ((HR.out _).mono ?_); rintro e w3 ⟨rfl, rfl⟩))
  refine bodyPost_ret (v := .tuple #[.agg #[.int .i64 3, .int .i64 0, .int .i64 n, .string (s.extract 0 n)], .int .i64 (-1)]) (by simp [results, Tryd.results22, go_sem]) rfl ?_
  exact RetT.ok rfl rfl (ext0 s n) (below_alloc _)
set_option maxRecDepth 100000 in
set_option maxHeartbeats 4000000 in
theorem token_none (s : ByteArray) (w : World) (h1 : 0 < s.size) (hl : 0 = Tom.lineEnd s.data.toList) (hp : ([91, 93, 123, 125, 44, 61, 46] : List UInt8).contains s[0] = false) (hb : Tom.bare s[0] = false) (hq1 : s[0] ≠ 34) (hq2 : s[0] ≠ 39) :
    Calls Tryd.prog 22 #[.string s] w (RetT w (.bad 0)) := by
  have HL := lineEnd_any s
  rw [← hl] at HL
  have HL := Lib.hid HL
  obtain ⟨i, hi0, HI⟩ := punct_any s[0] (w.alloc (.cells #[.int .i64 0, .int .i64 0, .int .i64 0, .string ⟨#[]⟩] 30))
  have HI := Lib.hid HI
  have hi : ¬ (0 ≤ i) := fun h => absurd ((hi0.1 h).symm.trans hp) (by decide)
  clear hi0
  have HB := fun w => bare_any s[0] w
  rw [hb] at HB
  have HB := Lib.hid HB
  have q1 : ((s[0].toNat : Int) == 34) = false := byte_ne 34 hq1
  have q2 : ((s[0].toNat : Int) == 39) = false := byte_ne 39 hq2
  clear hl hp hb hq1 hq2
  go_enter Tryd.func22, Tryd.ntmps22
  go_wp2_with (first
    | (go_at_call 20; refine ((HL.out _).mono ?_); rintro e w3 ⟨rfl, rfl⟩)
    | (go_at_call 39; refine (HI.out.mono ?_); rintro e w3 ⟨rfl, rfl⟩)
    | (go_at_call 40; refine ((HB.out _).mono ?_); rintro e w3 ⟨rfl, rfl⟩))
  refine bodyPost_ret (v := .tuple #[.agg #[.int .i64 0, .int .i64 0, .int .i64 0, .string ⟨#[]⟩], .int .i64 0]) (by simp [results, Tryd.results22, go_sem]) rfl ?_
  exact RetT.bad rfl (below_alloc _)
end Go.Proofs.YtdhbljbfjdlcdaaDoor
