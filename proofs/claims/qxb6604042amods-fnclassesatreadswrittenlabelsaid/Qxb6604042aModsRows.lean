/-
  No cell of these rows narrows 'for every input' (looked for: loops, veiled, ifaces, maps, wideKeys, modest, calm, conditions, laid).
  DERIVED. THE GIVEN ROWS OF THIS SEAT. 5 by the template 'for every input the law returns true; each argument reads behind the call as it read before'; 0 by the template 'total and deterministic' (their statements: Qxb6604042aModsTotals.lean).
  GIVEN WITH THE SEED: the statements are not yours to turn. If you find one false, say at which input.
  Laid BY PROGRAM, IN A SANDBOX (cutbox-rows.mjs): the forced cells as the released guide's own fill.sh prints them over the translation d8e781a3a6980137… (all of the seat's roots in one cut). By AI agents, Wed Nov 11 2026. No macro, syntax, notation, axiom, sorry.
-/
import Derived.Test.Qxb6604042aModsChecked
import GoSem.Claim
import GoSem.ClaimJoined
import GoSem.ClaimMapViews
import Derived.JoinedTies
import Derived.KernelRfl
namespace Go.Proofs.Qxb6604042aMods
/- THE CELL 'sum', in the pinned program and in every row, IS THE sha256 OF THE DUMP (.gsa) THAT Qxb6604042aModsProg.lean LOADS. Nothing in Lean hashes anything: it is a label: what it is worth is what the hold of that sum in a sandbox is worth. -/
noncomputable def Trym.pinned : Pinned := { name := "qxb6604042amods", sum := "d8e781a3a698013774da0c97bf3d38b47e433145dd672ca909d343273ca4ed98", checked := Trym.checked }
namespace Rows
def none {H : Type} : Left H := { results := [], args := [] }

/-- 'zzlaws_prospectus_b1.FnRowLabelModel': WHATEVER THE INPUT: true; the input reads as it did. -/
def fnRowLabelModelSpec : ChangeSpec := { name := "fnRowLabelModel", fn := fun _ => fun
  | [d1, d2] => { results := [.lit (.bool true)], args := [d1, d2] }
  | _ => none }
def fnRowLabelModelRow : OpenClaim := { program := "qxb6604042amods", sum := "d8e781a3a698013774da0c97bf3d38b47e433145dd672ca909d343273ca4ed98", func := "example.com/zhaomu/zhaomu/zzlaws_prospectus_b1.FnRowLabelModel", spec := "fnRowLabelModel", make := .lifted ["publicsums"], apart := false }
def FnRowLabelModelSaid : Prop := fnRowLabelModelRow.holds Trym.pinned (OpenSpec.ofChange fnRowLabelModelSpec)

/-- ITS FALSE NEIGHBOUR: 'it returns false'. Refute it at one input. -/
def fnRowLabelModelWrong : ChangeSpec := { name := "fnRowLabelModel", fn := fun _ => fun
  | [d1, d2] => { results := [.lit (.bool false)], args := [d1, d2] }
  | _ => none }
def FnRowLabelModelWrongFalsely : Prop := fnRowLabelModelRow.holds Trym.pinned (OpenSpec.ofChange fnRowLabelModelWrong)

/-- 'zzlaws_prospectus_b1.FnRowLabelReadsAWindow': WHATEVER THE INPUT: true; the input reads as it did. -/
def fnRowLabelReadsAWindowSpec : ChangeSpec := { name := "fnRowLabelReadsAWindow", fn := fun _ => fun
  | [d1, d2] => { results := [.lit (.bool true)], args := [d1, d2] }
  | _ => none }
def fnRowLabelReadsAWindowRow : OpenClaim := { program := "qxb6604042amods", sum := "d8e781a3a698013774da0c97bf3d38b47e433145dd672ca909d343273ca4ed98", func := "example.com/zhaomu/zhaomu/zzlaws_prospectus_b1.FnRowLabelReadsAWindow", spec := "fnRowLabelReadsAWindow", make := .lifted ["publicsums"], apart := false }
def FnRowLabelReadsAWindowSaid : Prop := fnRowLabelReadsAWindowRow.holds Trym.pinned (OpenSpec.ofChange fnRowLabelReadsAWindowSpec)

/-- ITS FALSE NEIGHBOUR: 'it returns false'. Refute it at one input. -/
def fnRowLabelReadsAWindowWrong : ChangeSpec := { name := "fnRowLabelReadsAWindow", fn := fun _ => fun
  | [d1, d2] => { results := [.lit (.bool false)], args := [d1, d2] }
  | _ => none }
def FnRowLabelReadsAWindowWrongFalsely : Prop := fnRowLabelReadsAWindowRow.holds Trym.pinned (OpenSpec.ofChange fnRowLabelReadsAWindowWrong)

/-- 'zzlaws_prospectus_b1.FnClassesAtHangsOnOneByteBefore': WHATEVER THE INPUT: true; the input reads as it did. -/
def fnClassesAtHangsOnOneByteBeforeSpec : ChangeSpec := { name := "fnClassesAtHangsOnOneByteBefore", fn := fun _ => fun
  | [d1, d2] => { results := [.lit (.bool true)], args := [d1, d2] }
  | _ => none }
def fnClassesAtHangsOnOneByteBeforeRow : OpenClaim := { program := "qxb6604042amods", sum := "d8e781a3a698013774da0c97bf3d38b47e433145dd672ca909d343273ca4ed98", func := "example.com/zhaomu/zhaomu/zzlaws_prospectus_b1.FnClassesAtHangsOnOneByteBefore", spec := "fnClassesAtHangsOnOneByteBefore", make := .lifted ["publicsums"], apart := false }
def FnClassesAtHangsOnOneByteBeforeSaid : Prop := fnClassesAtHangsOnOneByteBeforeRow.holds Trym.pinned (OpenSpec.ofChange fnClassesAtHangsOnOneByteBeforeSpec)

/-- ITS FALSE NEIGHBOUR: 'it returns false'. Refute it at one input. -/
def fnClassesAtHangsOnOneByteBeforeWrong : ChangeSpec := { name := "fnClassesAtHangsOnOneByteBefore", fn := fun _ => fun
  | [d1, d2] => { results := [.lit (.bool false)], args := [d1, d2] }
  | _ => none }
def FnClassesAtHangsOnOneByteBeforeWrongFalsely : Prop := fnClassesAtHangsOnOneByteBeforeRow.holds Trym.pinned (OpenSpec.ofChange fnClassesAtHangsOnOneByteBeforeWrong)

/-- 'zzlaws_prospectus_b1.FnClassesAtReadsWrittenLabel': WHATEVER THE INPUT: true; the input reads as it did. -/
def fnClassesAtReadsWrittenLabelSpec : ChangeSpec := { name := "fnClassesAtReadsWrittenLabel", fn := fun _ => fun
  | [d1, d2, d3] => { results := [.lit (.bool true)], args := [d1, d2, d3] }
  | _ => none }
def fnClassesAtReadsWrittenLabelRow : OpenClaim := { program := "qxb6604042amods", sum := "d8e781a3a698013774da0c97bf3d38b47e433145dd672ca909d343273ca4ed98", func := "example.com/zhaomu/zhaomu/zzlaws_prospectus_b1.FnClassesAtReadsWrittenLabel", spec := "fnClassesAtReadsWrittenLabel", make := .lifted ["publicsums"], apart := false }
def FnClassesAtReadsWrittenLabelSaid : Prop := fnClassesAtReadsWrittenLabelRow.holds Trym.pinned (OpenSpec.ofChange fnClassesAtReadsWrittenLabelSpec)

/-- ITS FALSE NEIGHBOUR: 'it returns false'. Refute it at one input. -/
def fnClassesAtReadsWrittenLabelWrong : ChangeSpec := { name := "fnClassesAtReadsWrittenLabel", fn := fun _ => fun
  | [d1, d2, d3] => { results := [.lit (.bool false)], args := [d1, d2, d3] }
  | _ => none }
def FnClassesAtReadsWrittenLabelWrongFalsely : Prop := fnClassesAtReadsWrittenLabelRow.holds Trym.pinned (OpenSpec.ofChange fnClassesAtReadsWrittenLabelWrong)

/-- 'zzlaws_prospectus_b1.FnGroupClassesModel': WHATEVER THE INPUT: true; the input reads as it did. -/
def fnGroupClassesModelSpec : ChangeSpec := { name := "fnGroupClassesModel", fn := fun _ => fun
  | [d1, d2, d3, d4, d5, d6, d7] => { results := [.lit (.bool true)], args := [d1, d2, d3, d4, d5, d6, d7] }
  | _ => none }
def fnGroupClassesModelRow : OpenClaim := { program := "qxb6604042amods", sum := "d8e781a3a698013774da0c97bf3d38b47e433145dd672ca909d343273ca4ed98", func := "example.com/zhaomu/zhaomu/zzlaws_prospectus_b1.FnGroupClassesModel", spec := "fnGroupClassesModel", unfollowed := true, recurses := true, make := .lifted ["publicsums"], apart := false }
def FnGroupClassesModelSaid : Prop := fnGroupClassesModelRow.holds Trym.pinned (OpenSpec.ofChange fnGroupClassesModelSpec)

/-- ITS FALSE NEIGHBOUR: 'it returns false'. Refute it at one input. -/
def fnGroupClassesModelWrong : ChangeSpec := { name := "fnGroupClassesModel", fn := fun _ => fun
  | [d1, d2, d3, d4, d5, d6, d7] => { results := [.lit (.bool false)], args := [d1, d2, d3, d4, d5, d6, d7] }
  | _ => none }
def FnGroupClassesModelWrongFalsely : Prop := fnGroupClassesModelRow.holds Trym.pinned (OpenSpec.ofChange fnGroupClassesModelWrong)

end Rows
end Go.Proofs.Qxb6604042aMods
