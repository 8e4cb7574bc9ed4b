/-
  'Rows.FnClassesAtReadsWrittenLabelSaid', PROVED: the guide's frame (three strings; the post limb by limb, by Derived/Below.lean).
-/
import Derived.Test.Qxb6604042aModsRows
import Derived.Test.Qxb6604042aModsLaw6d
import Derived.ChangeOld
import Derived.Below
import Derived.WalkKit
import Derived.ProofKit
import Derived.OpenShut
import Derived.ShutString
namespace Go.Proofs.Qxb6604042aMods.fnClassesAtReadsWrittenLabel
open Go.ChangeShapes Go.WideShapes Go.ChangeAt Go.RowKit
open Go.ChangeMaps (open_string shut_string)
set_option linter.unusedVariables false      -- a walk need not use every 'w<i>' (that an integer argument fits its kind)

theorem own : ownKnob Trym.prog.godebug = none := by kernel_rfl

set_option maxRecDepth 100000 in
theorem lifted (os : Os) (started : os.Started) (H : Type) (enc : TypeId × Value → H) :
    ReturnsInHanded {} Trym.checked os 6 .any (Rows.fnClassesAtReadsWrittenLabelSpec.pre6 enc Trym.prog Trym.f6 Rows.fnClassesAtReadsWrittenLabelRow.domain false) (Rows.fnClassesAtReadsWrittenLabelSpec.post enc Trym.prog Trym.f6 false true false false) := by
  refine returnsInHanded_of_change (C := Trym.checked) own started (by kernel_rfl) Trym.func6
    (ChangeSpec.witness6 (enc := enc) (C := Trym.checked) false ⟨#[], #[.string ByteArray.empty, .string ByteArray.empty, .string ByteArray.empty], []⟩ 8 (by kernel_rfl) (by kernel_rfl) (by kernel_rfl) (by kernel_rfl)) ?_
  intro W base args ds gs before hval0 hW hcnd _
  have hval : ∀ (j : Nat) t v, Trym.f6.params[j]? = some t → args[j]? = some v → Value.okWide Trym.prog W .any base t v := hval0
  have hW' := hW
  obtain ⟨p, q, hA0, hV, rfl, hfz, hnd⟩ := hW
  have hA : DataW.TrodAll enc Trym.prog W 0 (fun _ => true) true Trym.f6.params.toList args.toList ds p := hA0
  rw [Trym.params6] at hA hval
  obtain ⟨v0, vs0, d0, ds0, p0, q0, hargs, rfl, rfl, h0, r0⟩ := trodAll_cons hA
  obtain ⟨v1, vs1, d1, ds1, p1, q1, rfl, rfl, rfl, h1, r1⟩ := trodAll_cons r0
  obtain ⟨v2, vs2, d2, ds2, p2, q2, rfl, rfl, rfl, h2, r2⟩ := trodAll_cons r1
  obtain ⟨rfl, rfl, rfl⟩ := trodAll_nil r2
  obtain rfl : args = #[v0, v1, v2] := by cases args; simp_all
  obtain ⟨rfl, rfl⟩ := trodVars_none hV
  obtain ⟨a0, rfl, rfl, rfl, w0⟩ := open_string Trym.underlying9 (hval 0 9 v0 rfl rfl) h0
  obtain ⟨a1, rfl, rfl, rfl, w1⟩ := open_string Trym.underlying9 (hval 1 9 v1 rfl rfl) h1
  obtain ⟨a2, rfl, rfl, rfl, w2⟩ := open_string Trym.underlying9 (hval 2 9 v2 rfl rfl) h2
  clear hA0 hval0
  simp only [List.append_nil] at hW'
  refine (law6 a0 a1 a2 W w0 w1 w2).mono fun e W' ⟨he, bel⟩ => ?_
  subst he
  exact ⟨_, rfl, _, _, _, [], _, [], hW', trodAll_mk1 (shut_bool Trym.underlying4 _), (trodAll_cons_mk (shut_string Trym.underlying9 w0) (trodAll_cons_mk (shut_string Trym.underlying9 w1) (trodAll_cons_mk (shut_string Trym.underlying9 w2) trodAll_mk0))), rfl, bel.frame _, fun h => by cases h⟩

theorem over : Rows.fnClassesAtReadsWrittenLabelRow.holds Trym.pinned (OpenSpec.ofChange Rows.fnClassesAtReadsWrittenLabelSpec) :=
  OpenClaim.holds_of_wide 6 Trym.f6 rfl rfl rfl rfl rfl rfl rfl ⟨rfl, rfl, rfl, rfl, rfl⟩ rfl rfl rfl rfl rfl (by kernel_rfl) Trym.func6 (by kernel_rfl)
    (of_decide_eq_true (by kernel_rfl)) (by unfold Func.isWrapper; first | (rw [if_pos (by decide +kernel)]; kernel_rfl) | (rw [if_neg (by decide +kernel)]; exact ⟨rfl, rfl⟩))
    (fun os started H enc _ => lifted os started H enc)

/-- ████ THE STATEMENT ████ -/
theorem proved : Rows.FnClassesAtReadsWrittenLabelSaid :=
  over
end Go.Proofs.Qxb6604042aMods.fnClassesAtReadsWrittenLabel
namespace Go.Proofs.Qxb6604042aMods
/-- THE STATEMENT. -/
theorem fnClassesAtReadsWrittenLabel_proved : Rows.FnClassesAtReadsWrittenLabelSaid := fnClassesAtReadsWrittenLabel.proved
#print axioms fnClassesAtReadsWrittenLabel_proved
end Go.Proofs.Qxb6604042aMods
