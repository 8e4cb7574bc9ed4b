/-
  No cell of these rows narrows 'for every input' (looked for: loops, veiled, ifaces, maps, wideKeys, modest, calm, conditions, laid).
  DERIVED. THE GIVEN ROWS OF THIS SEAT. 7 by the template 'for every input the law returns true; each argument reads behind the call as it read before'; 0 by the template 'total and deterministic' (their statements: Qxb6602788aModsTotals.lean).
  GIVEN WITH THE SEED: the statements are not yours to turn. If you find one false, say at which input.
  Laid BY PROGRAM, IN A SANDBOX (cutbox-rows.mjs): the forced cells as the released guide's own fill.sh prints them over the translation ad7be01693ff9137… (all of the seat's roots in one cut). By AI agents, Wed Nov 11 2026. No macro, syntax, notation, axiom, sorry.
-/
import Derived.Test.Qxb6602788aModsChecked
import GoSem.Claim
import GoSem.ClaimJoined
import GoSem.ClaimMapViews
import Derived.JoinedTies
import Derived.KernelRfl
namespace Go.Proofs.Qxb6602788aMods
/- THE CELL 'sum', in the pinned program and in every row, IS THE sha256 OF THE DUMP (.gsa) THAT Qxb6602788aModsProg.lean LOADS. Nothing in Lean hashes anything: it is a label: what it is worth is what the hold of that sum in a sandbox is worth. -/
noncomputable def Trym.pinned : Pinned := { name := "qxb6602788amods", sum := "ad7be01693ff91372919bceabc91104fe934799093133932e22defbc7d29f219", checked := Trym.checked }
namespace Rows
def none {H : Type} : Left H := { results := [], args := [] }

/-- 'zzlaws_internal_replay_b1.FnWindowStartsMergesUnion': WHATEVER THE INPUT: true; the input reads as it did. -/
def fnWindowStartsMergesUnionSpec : ChangeSpec := { name := "fnWindowStartsMergesUnion", fn := fun _ => fun
  | [d1, d2] => { results := [.lit (.bool true)], args := [d1, d2] }
  | _ => none }
def fnWindowStartsMergesUnionRow : OpenClaim := { program := "qxb6602788amods", sum := "ad7be01693ff91372919bceabc91104fe934799093133932e22defbc7d29f219", func := "example.com/fair-quota/fair-quota/zzlaws_internal_replay_b1.FnWindowStartsMergesUnion", spec := "fnWindowStartsMergesUnion", make := .lifted ["publicsums"], apart := false }
def FnWindowStartsMergesUnionSaid : Prop := fnWindowStartsMergesUnionRow.holds Trym.pinned (OpenSpec.ofChange fnWindowStartsMergesUnionSpec)

/-- ITS FALSE NEIGHBOUR: 'it returns false'. Refute it at one input. -/
def fnWindowStartsMergesUnionWrong : ChangeSpec := { name := "fnWindowStartsMergesUnion", fn := fun _ => fun
  | [d1, d2] => { results := [.lit (.bool false)], args := [d1, d2] }
  | _ => none }
def FnWindowStartsMergesUnionWrongFalsely : Prop := fnWindowStartsMergesUnionRow.holds Trym.pinned (OpenSpec.ofChange fnWindowStartsMergesUnionWrong)

/-- 'zzlaws_internal_replay_b1.FnWindowStartsSymmetric': WHATEVER THE INPUT: true; the input reads as it did. -/
def fnWindowStartsSymmetricSpec : ChangeSpec := { name := "fnWindowStartsSymmetric", fn := fun _ => fun
  | [d1, d2] => { results := [.lit (.bool true)], args := [d1, d2] }
  | _ => none }
def fnWindowStartsSymmetricRow : OpenClaim := { program := "qxb6602788amods", sum := "ad7be01693ff91372919bceabc91104fe934799093133932e22defbc7d29f219", func := "example.com/fair-quota/fair-quota/zzlaws_internal_replay_b1.FnWindowStartsSymmetric", spec := "fnWindowStartsSymmetric", make := .lifted ["publicsums"], apart := false }
def FnWindowStartsSymmetricSaid : Prop := fnWindowStartsSymmetricRow.holds Trym.pinned (OpenSpec.ofChange fnWindowStartsSymmetricSpec)

/-- ITS FALSE NEIGHBOUR: 'it returns false'. Refute it at one input. -/
def fnWindowStartsSymmetricWrong : ChangeSpec := { name := "fnWindowStartsSymmetric", fn := fun _ => fun
  | [d1, d2] => { results := [.lit (.bool false)], args := [d1, d2] }
  | _ => none }
def FnWindowStartsSymmetricWrongFalsely : Prop := fnWindowStartsSymmetricRow.holds Trym.pinned (OpenSpec.ofChange fnWindowStartsSymmetricWrong)

/-- 'zzlaws_internal_replay_b1.FnWindowStartsWithItselfOrNothing': WHATEVER THE INPUT: true; the input reads as it did. -/
def fnWindowStartsWithItselfOrNothingSpec : ChangeSpec := { name := "fnWindowStartsWithItselfOrNothing", fn := fun _ => fun
  | [d] => { results := [.lit (.bool true)], args := [d] }
  | _ => none }
def fnWindowStartsWithItselfOrNothingRow : OpenClaim := { program := "qxb6602788amods", sum := "ad7be01693ff91372919bceabc91104fe934799093133932e22defbc7d29f219", func := "example.com/fair-quota/fair-quota/zzlaws_internal_replay_b1.FnWindowStartsWithItselfOrNothing", spec := "fnWindowStartsWithItselfOrNothing", make := .lifted ["publicsums"], apart := false }
def FnWindowStartsWithItselfOrNothingSaid : Prop := fnWindowStartsWithItselfOrNothingRow.holds Trym.pinned (OpenSpec.ofChange fnWindowStartsWithItselfOrNothingSpec)

/-- ITS FALSE NEIGHBOUR: 'it returns false'. Refute it at one input. -/
def fnWindowStartsWithItselfOrNothingWrong : ChangeSpec := { name := "fnWindowStartsWithItselfOrNothing", fn := fun _ => fun
  | [d] => { results := [.lit (.bool false)], args := [d] }
  | _ => none }
def FnWindowStartsWithItselfOrNothingWrongFalsely : Prop := fnWindowStartsWithItselfOrNothingRow.holds Trym.pinned (OpenSpec.ofChange fnWindowStartsWithItselfOrNothingWrong)

/-- 'zzlaws_internal_replay_b1.FnAddScriptIsRunSums': WHATEVER THE INPUT: true; the input reads as it did. -/
def fnAddScriptIsRunSumsSpec : ChangeSpec := { name := "fnAddScriptIsRunSums", fn := fun _ => fun
  | [d] => { results := [.lit (.bool true)], args := [d] }
  | _ => none }
def fnAddScriptIsRunSumsRow : OpenClaim := { program := "qxb6602788amods", sum := "ad7be01693ff91372919bceabc91104fe934799093133932e22defbc7d29f219", func := "example.com/fair-quota/fair-quota/zzlaws_internal_replay_b1.FnAddScriptIsRunSums", spec := "fnAddScriptIsRunSums", make := .lifted ["publicsums"], apart := false }
def FnAddScriptIsRunSumsSaid : Prop := fnAddScriptIsRunSumsRow.holds Trym.pinned (OpenSpec.ofChange fnAddScriptIsRunSumsSpec)

/-- ITS FALSE NEIGHBOUR: 'it returns false'. Refute it at one input. -/
def fnAddScriptIsRunSumsWrong : ChangeSpec := { name := "fnAddScriptIsRunSums", fn := fun _ => fun
  | [d] => { results := [.lit (.bool false)], args := [d] }
  | _ => none }
def FnAddScriptIsRunSumsWrongFalsely : Prop := fnAddScriptIsRunSumsRow.holds Trym.pinned (OpenSpec.ofChange fnAddScriptIsRunSumsWrong)

/-- 'zzlaws_internal_replay_b1.FnAddScriptConservesIntegerTokens': WHATEVER THE INPUT: true; the input reads as it did. -/
def fnAddScriptConservesIntegerTokensSpec : ChangeSpec := { name := "fnAddScriptConservesIntegerTokens", fn := fun _ => fun
  | [d] => { results := [.lit (.bool true)], args := [d] }
  | _ => none }
def fnAddScriptConservesIntegerTokensRow : OpenClaim := { program := "qxb6602788amods", sum := "ad7be01693ff91372919bceabc91104fe934799093133932e22defbc7d29f219", func := "example.com/fair-quota/fair-quota/zzlaws_internal_replay_b1.FnAddScriptConservesIntegerTokens", spec := "fnAddScriptConservesIntegerTokens", make := .lifted ["publicsums"], apart := false }
def FnAddScriptConservesIntegerTokensSaid : Prop := fnAddScriptConservesIntegerTokensRow.holds Trym.pinned (OpenSpec.ofChange fnAddScriptConservesIntegerTokensSpec)

/-- ITS FALSE NEIGHBOUR: 'it returns false'. Refute it at one input. -/
def fnAddScriptConservesIntegerTokensWrong : ChangeSpec := { name := "fnAddScriptConservesIntegerTokens", fn := fun _ => fun
  | [d] => { results := [.lit (.bool false)], args := [d] }
  | _ => none }
def FnAddScriptConservesIntegerTokensWrongFalsely : Prop := fnAddScriptConservesIntegerTokensRow.holds Trym.pinned (OpenSpec.ofChange fnAddScriptConservesIntegerTokensWrong)

/-- 'zzlaws_internal_replay_b1.FnSumExactOnSmallIntegers': WHATEVER THE INPUT: true; the input reads as it did. -/
def fnSumExactOnSmallIntegersSpec : ChangeSpec := { name := "fnSumExactOnSmallIntegers", fn := fun _ => fun
  | [d] => { results := [.lit (.bool true)], args := [d] }
  | _ => none }
def fnSumExactOnSmallIntegersRow : OpenClaim := { program := "qxb6602788amods", sum := "ad7be01693ff91372919bceabc91104fe934799093133932e22defbc7d29f219", func := "example.com/fair-quota/fair-quota/zzlaws_internal_replay_b1.FnSumExactOnSmallIntegers", spec := "fnSumExactOnSmallIntegers", make := .lifted ["publicsums"], apart := false }
def FnSumExactOnSmallIntegersSaid : Prop := fnSumExactOnSmallIntegersRow.holds Trym.pinned (OpenSpec.ofChange fnSumExactOnSmallIntegersSpec)

/-- ITS FALSE NEIGHBOUR: 'it returns false'. Refute it at one input. -/
def fnSumExactOnSmallIntegersWrong : ChangeSpec := { name := "fnSumExactOnSmallIntegers", fn := fun _ => fun
  | [d] => { results := [.lit (.bool false)], args := [d] }
  | _ => none }
def FnSumExactOnSmallIntegersWrongFalsely : Prop := fnSumExactOnSmallIntegersRow.holds Trym.pinned (OpenSpec.ofChange fnSumExactOnSmallIntegersWrong)

/-- 'zzlaws_internal_replay_b1.FnSumOfNonNegativesIsAtLeastEach': WHATEVER THE INPUT: true; the input reads as it did. -/
def fnSumOfNonNegativesIsAtLeastEachSpec : ChangeSpec := { name := "fnSumOfNonNegativesIsAtLeastEach", fn := fun _ => fun
  | [d] => { results := [.lit (.bool true)], args := [d] }
  | _ => none }
def fnSumOfNonNegativesIsAtLeastEachRow : OpenClaim := { program := "qxb6602788amods", sum := "ad7be01693ff91372919bceabc91104fe934799093133932e22defbc7d29f219", func := "example.com/fair-quota/fair-quota/zzlaws_internal_replay_b1.FnSumOfNonNegativesIsAtLeastEach", spec := "fnSumOfNonNegativesIsAtLeastEach", make := .lifted ["publicsums"], apart := false }
def FnSumOfNonNegativesIsAtLeastEachSaid : Prop := fnSumOfNonNegativesIsAtLeastEachRow.holds Trym.pinned (OpenSpec.ofChange fnSumOfNonNegativesIsAtLeastEachSpec)

/-- ITS FALSE NEIGHBOUR: 'it returns false'. Refute it at one input. -/
def fnSumOfNonNegativesIsAtLeastEachWrong : ChangeSpec := { name := "fnSumOfNonNegativesIsAtLeastEach", fn := fun _ => fun
  | [d] => { results := [.lit (.bool false)], args := [d] }
  | _ => none }
def FnSumOfNonNegativesIsAtLeastEachWrongFalsely : Prop := fnSumOfNonNegativesIsAtLeastEachRow.holds Trym.pinned (OpenSpec.ofChange fnSumOfNonNegativesIsAtLeastEachWrong)

end Rows
end Go.Proofs.Qxb6602788aMods
