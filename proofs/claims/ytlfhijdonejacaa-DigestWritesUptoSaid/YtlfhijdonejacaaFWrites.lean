/-
  The frame of DigestWrites: the walk, read as the given statement. Laid by wip/gen/frame.py.
-/
import Derived.Test.YtlfhijdonejacaaRows
import Derived.Test.YtlfhijdonejacaaLaw4
import Derived.Test.YtlfhijdonejacaaOpen
import Derived.WalkKit
import Derived.ProofKit
import Derived.OpenShut
import Derived.ShutString
import Derived.SliceStrings
import Derived.SizedLaws
import Derived.JoinedCond
import Derived.Deep.CondSized
namespace Go.Proofs.Ytlfhijdonejacaa.digestWrites
open Go.ChangeShapes Go.WideShapes Go.ChangeAt Go.RowKit
open Go.ChangeMaps (open_string shut_string)
set_option linter.unusedVariables false
theorem own : ownKnob Try.prog.godebug = none := by kernel_rfl
theorem laidOut : laidOutB Try.prog = true := by kernel_rfl
set_option maxRecDepth 100000 in
theorem lifted (os : Os) (started : os.Started) (H : Type) (enc : TypeId × Value → H) (F : Stop.Interp) :
    ReturnsInHanded {} Try.checked os 7 .any ((Rows.OpenSpec.upto Rows.digestWritesSpec).pre6 enc Try.prog Try.f7 Rows.digestWritesUptoRow.domain false) (((Rows.OpenSpec.upto Rows.digestWritesSpec).at F).post enc Try.prog Try.f7 false true false false) := by
  refine returnsInHanded_of_cond_sized (C := Try.checked) (s := Rows.OpenSpec.upto Rows.digestWritesSpec) (k := Rows.uptoSmall) rfl own started (by kernel_rfl) Try.func7
    (OpenSpec.witness (enc := enc) (C := Try.checked) (s := Rows.OpenSpec.upto Rows.digestWritesSpec) (k := Rows.uptoSmall) rfl false ⟨#[], #[.slice none 0 0], []⟩ 8 (by kernel_rfl) (by kernel_rfl) (by kernel_rfl)
      (x := ([.nil], [], [])) (by kernel_rfl) rfl (by kernel_rfl)) ?_
  intro W base args ds gs before hval0 hW hcnd hk hsz0 _
  have hsz : (DataW.weightsEach Try.prog (Try.f7.params.toList ++ Rows.digestWritesSpec.plain.varTypes Try.prog) (ds ++ gs)).all (· ≤ reachBytes) = true := hsz0
  have hval : ∀ (j : Nat) t v, Try.f7.params[j]? = some t → args[j]? = some v → Value.okWide Try.prog W .any base t v := hval0
  have hW' := hW
  obtain ⟨p, q, hA0, hV, rfl, hfz, hnd⟩ := hW
  have hA : DataW.TrodAll enc Try.prog W 0 (fun _ => true) true Try.f7.params.toList args.toList ds p := hA0
  rw [Try.params7] at hA hval hsz
  obtain ⟨v0, vs0, d0, ds0, p0, q0, hargs, rfl, rfl, h0, r0⟩ := trodAll_cons hA
  obtain ⟨rfl, rfl, rfl⟩ := trodAll_nil r0
  obtain rfl : args = #[v0] := by cases args; simp_all
  obtain ⟨rfl, rfl⟩ := trodVars_none hV
  obtain ⟨a0, len0, cap0, rfl⟩ := okWide_slice Try.underlying38 (hval 0 38 v0 rfl rfl)
  have k0 := h0
  have lt0 : ∀ x ∈ p0, x.block < W.heap.size := by obtain ⟨m, hm⟩ := k0; exact DataW.trod_lt m _ _ _ hm
  obtain ⟨l0, w0, z0, y0⟩ : ∃ l, StrRow W W.heap.size (.slice a0 len0 cap0) l ∧ (∀ s ∈ l, s.size ≤ maxLen) ∧ (catL l).length + l.length ≤ Rows.uptoBulk d0 := by
    obtain ⟨fuel, hf⟩ := h0
    rcases open_strings Try.underlying38 Try.underlying9 (by kernel_rfl) hf with ⟨hcs, hx⟩ | ⟨x, len, cap, ss, hcs, _, hl, hm, hz, hx, hcell, hws⟩
    · simp [Value.cells] at hcs
      obtain ⟨rfl, rfl, rfl⟩ := hcs
      exact ⟨[], StrRow.none _ _, fun s hs => absurd hs List.not_mem_nil, Nat.zero_le _⟩
    · simp [Value.cells] at hcs
      obtain ⟨rfl, rfl, rfl⟩ := hcs
      have hlen : len0 ≤ ss.length := by rw [hz]; split <;> omega
      refine ⟨ss.take len0, strRow_opened hlen hl hcell, fun s hs => hws s (List.mem_of_mem_take hs), ?_⟩
      have hd : d0 = .slice (strs (ss.take len0)) (strs (ss.drop len0)) := congrArg Prod.fst hx
      rw [hd]
      exact Nat.le_trans (bulk_strs _) (bulk_slice _ _)
  have b0 := Nat.le_trans (Nat.le_trans y0 (bulk_part (by simp))) (bulk_bound hk)
  clear hA0 hval0
  refine (digestWrites_any l0 _ W w0 b0).mono fun e W' ⟨he, bel⟩ => ?_
  subst he
  exact ⟨_, rfl, _, _, _, [], _, [], hW', trodAll_mk1 (shut_bool Try.underlying4 _), (trodAll_cons_mk (Below.trod laidOut (by kernel_rfl) (of_decide_eq_true (by kernel_rfl)) k0 bel lt0) trodAll_mk0), rfl, bel.frame _, fun h => by cases h⟩
theorem over : Rows.digestWritesUptoRow.holds Try.pinned (Rows.OpenSpec.upto Rows.digestWritesSpec) :=
  OpenClaim.holds_of_cond 7 Try.f7 rfl rfl rfl rfl rfl rfl rfl ⟨rfl, rfl, rfl, rfl, rfl⟩ rfl rfl rfl rfl rfl (by kernel_rfl) Try.func7 (by kernel_rfl)
    (of_decide_eq_true (by kernel_rfl)) (by unfold Func.isWrapper; first | (rw [if_pos (by decide +kernel)]; kernel_rfl) | (rw [if_neg (by decide +kernel)]; exact ⟨rfl, rfl⟩))
    (fun os started H enc _ F => lifted os started H enc F)
/-- The given statement. -/
theorem proved : Rows.DigestWritesUptoSaid := over
#print axioms proved
end Go.Proofs.Ytlfhijdonejacaa.digestWrites
