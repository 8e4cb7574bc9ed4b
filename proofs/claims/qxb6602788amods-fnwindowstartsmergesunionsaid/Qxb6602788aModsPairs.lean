/-
  PLAIN: rows of two-cell structs in memory: 'flat2': their cells; 'PRow': such a row read in place; what the call owns.
-/
import Derived.Test.Qxb6602788aModsSum
namespace Go.Proofs.Qxb6602788aMods
open Go.RowKit

section
variable {α : Type} (f g : α → Value)

def flat2 (l : List α) : List Value := l.flatMap fun p => [f p, g p]

theorem flat2_length (l : List α) : (flat2 f g l).length = l.length * 2 := by
  induction l with
  | nil => rfl
  | cons p l ih => simp only [flat2, List.flatMap_cons, List.length_append, List.length_cons, List.length_nil] at *; omega

theorem flat2_append (l m : List α) : flat2 f g (l ++ m) = flat2 f g l ++ flat2 f g m := by simp [flat2]

theorem flat2_get0 : ∀ (l : List α) (i : Nat) (h : i < l.length), (flat2 f g l)[i * 2]? = some (f l[i])
  | [], i, h => absurd h (Nat.not_lt_zero _)
  | p :: l, 0, h => rfl
  | p :: l, i + 1, h => by
    have := flat2_get0 l i (by simpa using h)
    have e : (i + 1) * 2 = i * 2 + 1 + 1 := by omega
    rw [e]
    simpa [flat2] using this

theorem flat2_get1 : ∀ (l : List α) (i : Nat) (h : i < l.length), (flat2 f g l)[i * 2 + 1]? = some (g l[i])
  | [], i, h => absurd h (Nat.not_lt_zero _)
  | p :: l, 0, h => rfl
  | p :: l, i + 1, h => by
    have := flat2_get1 l i (by simpa using h)
    have e : (i + 1) * 2 + 1 = i * 2 + 1 + 1 + 1 := by omega
    rw [e]
    simpa [flat2] using this

theorem flat2_set : ∀ (l : List α) (i : Nat) (p : α), ((flat2 f g l).set (i * 2) (f p)).set (i * 2 + 1) (g p) = flat2 f g (l.set i p)
  | [], i, p => by simp [flat2]
  | q :: l, 0, p => rfl
  | q :: l, i + 1, p => by
    have := flat2_set l i p
    have e : (i + 1) * 2 = i * 2 + 1 + 1 := by omega
    rw [e]
    simpa [flat2] using this

theorem flat2_set1 (l : List α) (i : Nat) (h : i < l.length) (p : α) (hp : f p = f l[i]) : (flat2 f g l).set (i * 2 + 1) (g p) = flat2 f g (l.set i p) := by
  rw [← flat2_set f g l i p, hp]
  have h0 := flat2_get0 f g l i h
  have e : (flat2 f g l).set (i * 2) (f l[i]) = flat2 f g l := by
    apply List.ext_getElem?
    intro j
    rw [List.getElem?_set]
    by_cases hj : i * 2 = j
    · subst hj
      have hl : i * 2 < (flat2 f g l).length := by rw [flat2_length]; omega
      simp only [hl, if_true]; exact h0.symm
    · simp [hj]
  rw [e]

theorem flat2_replicate (n : Nat) (p : α) : (madeCells #[f p, g p] (n * 2)).toList = flat2 f g (List.replicate n p) := by
  apply List.ext_getElem?
  intro j
  have hlen : (flat2 f g (List.replicate n p)).length = n * 2 := by rw [flat2_length]; simp
  by_cases hj : j < n * 2
  · rcases Nat.mod_two_eq_zero_or_one j with h | h
    · have e : j = j / 2 * 2 := by omega
      rw [e, flat2_get0 f g _ (j / 2) (by simp; omega)]
      rw [← e]
      simp [madeCells, hj, h]
    · have e : j = j / 2 * 2 + 1 := by omega
      rw [e, flat2_get1 f g _ (j / 2) (by simp; omega)]
      rw [← e]
      simp [madeCells, hj, h]
  · rw [List.getElem?_eq_none (l := flat2 f g (List.replicate n p)) (by rw [hlen]; omega)]
    simp [madeCells, hj]

/-- A row of two-cell structs in memory. -/
def PRow (w : World) (a : Option Addr) (n : Nat) (l : List α) : Prop :=
  l.length = n ∧ (n = 0 ∨ ∃ b off, a = some ⟨b, off, none⟩ ∧ ∀ i (h : i < l.length), w.cell? ⟨b, off + i * 2, none⟩ = some (f l[i]) ∧ w.cell? ⟨b, off + i * 2 + 1, none⟩ = some (g l[i]))

variable {f g}
theorem PRow.later {w w' : World} {a : Option Addr} {n : Nat} {l : List α} (h : PRow f g w a n l) (hb : Below w.heap.size w w') : PRow f g w' a n l := by
  refine ⟨h.1, ?_⟩
  rcases h.2 with h0 | ⟨b, off, ha, hc⟩
  · exact .inl h0
  · exact .inr ⟨b, off, ha, fun i hi => ⟨cell_later hb (hc i hi).1, cell_later hb (hc i hi).2⟩⟩

theorem PRow.of_own {w : World} {base n c gb : Nat} {e : TypeId} {l : List α} (hl : l.length = n) (h : w.ownsRow base e 2 (.slice (some ⟨gb, 0, none⟩) n c) n (flat2 f g l)) : PRow f g w (some ⟨gb, 0, none⟩) n l := by
  refine ⟨hl, .inr ⟨gb, 0, rfl, fun i hi => ?_⟩⟩
  rw [Nat.zero_add, h.cellAt (i * 2) (by omega), h.cellAt (i * 2 + 1) (by omega), flat2_get0 f g l i hi, flat2_get1 f g l i hi]
  exact ⟨rfl, rfl⟩

variable (f g)
/-- The first k of l, the rest z. -/
def pre (z : α) (n k : Nat) (l : List α) : List α := (List.range n).map fun i => if i < k then l.getD i z else z

theorem pre_length (z : α) (n k : Nat) (l : List α) : (pre z n k l).length = n := by simp [pre]

theorem pre_zero (z : α) (n : Nat) (l : List α) : List.replicate n z = pre z n 0 l := by
  apply List.ext_getElem?
  intro j
  by_cases h : j < n <;> simp [pre, h]

theorem pre_set (z : α) (n k : Nat) (l : List α) (hk : k < l.length) : (pre z n k l).set k l[k] = pre z n (k + 1) l := by
  apply List.ext_getElem?
  intro j
  rw [List.getElem?_set]
  by_cases h : j < n
  · by_cases e : k = j
    · subst e; simp [pre, h, List.getD, hk]
    · have : (j < k + 1) ↔ j < k := by omega
      simp [pre, h, e, this]
  · by_cases e : k = j
    · subst e; simp [pre, h]
    · simp [pre, h, e]

theorem pre_all (z : α) (n : Nat) (l : List α) (h : l.length = n) : pre z n n l = l := by
  apply List.ext_getElem?
  intro j
  by_cases hj : j < n
  · simp [pre, hj, List.getD, show j < l.length by omega]
  · simp [pre, hj, h]

end

/-- Admission, ZZWindowSum, windowSum: an index and tokens. -/
def ci (p : Int × Nat) : Value := .int .i64 p.1
def ct (p : Int × Nat) : Value := .float .f64 p.2
abbrev flat (ps : List (Int × Nat)) : List Value := flat2 ci ct ps
abbrev ARow := PRow ci ct

end Go.Proofs.Qxb6602788aMods
