/-
  'Rows.FnWindowStartsMergesUnionSaid', PROVED: the guide's frame for a law over slices (Derived/Below.lean).
-/
import Derived.Test.Qxb6602788aModsRows
import Derived.Test.Qxb6602788aModsLawUnion
import Derived.Test.Qxb6602788aModsOpenPairs
import Derived.WalkKit
import Derived.ProofKit
import Derived.ChangeOld
import Derived.Below
namespace Go.Proofs.Qxb6602788aMods.fnWindowStartsMergesUnion
open Go.ChangeShapes Go.WideShapes Go.ChangeAt Go.RowKit
set_option linter.unusedVariables false

theorem own : ownKnob Trym.prog.godebug = none := by kernel_rfl
theorem laidOut : laidOutB Trym.prog = true := by kernel_rfl

set_option maxRecDepth 100000 in
theorem lifted (os : Os) (started : os.Started) (H : Type) (enc : TypeId × Value → H) :
    ReturnsInHanded {} Trym.checked os 3 .any (Rows.fnWindowStartsMergesUnionSpec.pre6 enc Trym.prog Trym.f3 Rows.fnWindowStartsMergesUnionRow.domain false) (Rows.fnWindowStartsMergesUnionSpec.post enc Trym.prog Trym.f3 false true false false) := by
  refine returnsInHanded_of_change (C := Trym.checked) own started (by kernel_rfl) Trym.func3
    (ChangeSpec.witness6 (enc := enc) (C := Trym.checked) false ⟨#[], #[.slice none 0 0, .slice none 0 0], []⟩ 8 (by kernel_rfl) (by kernel_rfl) (by kernel_rfl) (by kernel_rfl)) ?_
  intro W base args ds gs before hval0 hW hcnd _
  have hval : ∀ (j : Nat) t v, Trym.f3.params[j]? = some t → args[j]? = some v → Value.okWide Trym.prog W .any base t v := hval0
  have hW' := hW
  obtain ⟨p, q, hA0, hV, rfl, hfz, hnd⟩ := hW
  have hA : DataW.TrodAll enc Trym.prog W 0 (fun _ => true) true Trym.f3.params.toList args.toList ds p := hA0
  rw [Trym.params3] at hA hval
  obtain ⟨v0, vs0, d0, ds0, p0, q0, hargs, rfl, rfl, h0, r0⟩ := trodAll_cons hA
  obtain ⟨v1, vs1, d1, ds1, p1, q1, rfl, rfl, rfl, h1, r1⟩ := trodAll_cons r0
  obtain ⟨rfl, rfl, rfl⟩ := trodAll_nil r1
  obtain rfl : args = #[v0, v1] := by cases args; simp_all
  obtain ⟨rfl, rfl⟩ := trodVars_none hV
  obtain ⟨a0, len0, cap0, rfl⟩ := okWide_slice Trym.underlying22 (hval 0 22 v0 rfl rfl)
  obtain ⟨a1, len1, cap1, rfl⟩ := okWide_slice Trym.underlying22 (hval 1 22 v1 rfl rfl)
  have k0 := h0
  have k1 := h1
  have lt0 : ∀ x ∈ p0, x.block < W.heap.size := by obtain ⟨m, hm⟩ := k0; exact DataW.trod_lt m _ _ _ hm
  have lt1 : ∀ x ∈ p1, x.block < W.heap.size := by obtain ⟨m, hm⟩ := k1; exact DataW.trod_lt m _ _ _ hm
  obtain ⟨g1, g2, xs, g3, _⟩ : (a0 = none → len0 = 0 ∧ cap0 = 0) ∧ len0 ≤ maxLen ∧ ∃ xs : List (Nat × Int), WRow W a0 len0 xs ∧ ∀ x ∈ xs, x.1 < 2 ^ 64 := by
    obtain ⟨fuel, hf⟩ := h0
    exact open_wins (by simpa [Value.cells] using hf)
  obtain ⟨j1, j2, ys, j3, _⟩ : (a1 = none → len1 = 0 ∧ cap1 = 0) ∧ len1 ≤ maxLen ∧ ∃ xs : List (Nat × Int), WRow W a1 len1 xs ∧ ∀ x ∈ xs, x.1 < 2 ^ 64 := by
    obtain ⟨fuel, hf⟩ := h1
    exact open_wins (by simpa [Value.cells] using hf)
  clear hA0 hval0
  refine (law3 a0 len0 cap0 xs a1 len1 cap1 ys W g2 j2 g3 j3 g1 j1).mono fun e W' ⟨he, bel⟩ => ?_
  subst he
  exact ⟨_, rfl, _, _, _, [], _, [], hW', trodAll_mk1 (shut_bool Trym.underlying4 _), (trodAll_mk2 (Below.trod laidOut (by kernel_rfl) (of_decide_eq_true (by kernel_rfl)) k0 bel lt0) (Below.trod laidOut (by kernel_rfl) (of_decide_eq_true (by kernel_rfl)) k1 bel lt1)), rfl, bel.frame _, fun h => by cases h⟩

theorem over : Rows.fnWindowStartsMergesUnionRow.holds Trym.pinned (OpenSpec.ofChange Rows.fnWindowStartsMergesUnionSpec) :=
  OpenClaim.holds_of_wide 3 Trym.f3 rfl rfl rfl rfl rfl rfl rfl ⟨rfl, rfl, rfl, rfl, rfl⟩ rfl rfl rfl rfl rfl (by kernel_rfl) Trym.func3 (by kernel_rfl)
    (of_decide_eq_true (by kernel_rfl)) (by unfold Func.isWrapper; first | (rw [if_pos (by decide +kernel)]; kernel_rfl) | (rw [if_neg (by decide +kernel)]; exact ⟨rfl, rfl⟩))
    (fun os started H enc _ => lifted os started H enc)

end Go.Proofs.Qxb6602788aMods.fnWindowStartsMergesUnion
namespace Go.Proofs.Qxb6602788aMods
/-- THE STATEMENT. -/
theorem fnWindowStartsMergesUnion_proved : Rows.FnWindowStartsMergesUnionSaid := fnWindowStartsMergesUnion.over
#print axioms fnWindowStartsMergesUnion_proved
end Go.Proofs.Qxb6602788aMods
