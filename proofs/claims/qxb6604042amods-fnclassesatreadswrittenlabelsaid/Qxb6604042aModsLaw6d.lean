/-
  THE WALK over FnClassesAtReadsWrittenLabel (6), whole.
-/
import Derived.Test.Qxb6604042aModsLaw6b
import Derived.Test.Qxb6604042aModsLaw6c
namespace Go.Proofs.Qxb6604042aMods
open Go.RowKit

theorem law6 (a b c : ByteArray) (w : World) (ha : a.size ≤ maxLen) (hb : b.size ≤ maxLen) (hc : c.size ≤ maxLen) :
    Calls Trym.prog 6 #[.string a, .string b, .string c] w (Law6Post w) := by
  by_cases h : a.size + b.size + c.size ≤ 1048576 ∧ a.size + c.size + 20 * b.size ≤ 1048576 ∧ 0 < b.size
  · obtain ⟨h1, h2, h0⟩ := h
    by_cases ha0 : 0 < a.size
    · exact law6_some a b c w ha hb hc h1 h2 h0 ha0
    · exact law6_none a b c w ha hb hc h1 h2 h0 ha0
  · exact law6_early a b c w ha hb hc h

end Go.Proofs.Qxb6604042aMods
