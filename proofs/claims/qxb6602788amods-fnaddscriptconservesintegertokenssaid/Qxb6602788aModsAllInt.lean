/-
  PLAIN: adding whole tokens keeps their total.
-/
import Derived.Test.Qxb6602788aModsInts
import Derived.Test.Qxb6602788aModsScript
namespace Go.Proofs.Qxb6602788aMods
open Fl

def AllInt : List Nat → List Int → Prop
  | [], [] => True
  | x :: xs, m :: ms => IsInt x m ∧ AllInt xs ms
  | _, _ => False

def absSum (ms : List Int) : Nat := (ms.map Int.natAbs).sum

theorem allInt_snoc (xs : List Nat) : ∀ (ms : List Int) (x : Nat) (m : Int), AllInt xs ms → IsInt x m → AllInt (xs ++ [x]) (ms ++ [m]) := by
  induction xs with
  | nil =>
    intro ms x m h hx
    cases ms with
    | nil => exact ⟨hx, trivial⟩
    | cons a l => exact h.elim
  | cons y ys ih =>
    intro ms x m h hx
    cases ms with
    | nil => exact h.elim
    | cons a l => exact ⟨h.1, ih l x m h.2 hx⟩

theorem allInt_split (xs : List Nat) : ∀ (ms : List Int) (x : Nat), AllInt (xs ++ [x]) ms → ∃ ns m, ms = ns ++ [m] ∧ AllInt xs ns ∧ IsInt x m := by
  induction xs with
  | nil =>
    intro ms x h
    match ms, h with
    | [m], h => exact ⟨[], m, rfl, trivial, h.1⟩
    | [], h => exact h.elim
    | _ :: _ :: _, h => exact h.2.elim
  | cons y ys ih =>
    intro ms x h
    match ms, h with
    | [], h => exact h.elim
    | a :: l, h =>
      obtain ⟨ns, m, rfl, h1, h2⟩ := ih l x h.2
      exact ⟨a :: ns, m, rfl, ⟨h.1, h1⟩, h2⟩

theorem absSum_append (a b : List Int) : absSum (a ++ b) = absSum a + absSum b := by simp [absSum]

theorem sum_le_abs (ms : List Int) : ms.sum.natAbs ≤ absSum ms := by
  induction ms with
  | nil => simp [absSum]
  | cons m l ih =>
    have e : absSum (m :: l) = m.natAbs + absSum l := by simp [absSum]
    rw [e, List.sum_cons]; omega

/-- One step: the total grows by the token. -/
theorem step_int {ps ps' : List (Int × Nat)} {i : Int} {t : Nat} {m : Int} {ms : List Int} (h : AddStep ps i t ps') (hm : IsInt t m) (hi : AllInt (ps.map (·.2)) ms) (hb : absSum ms + m.natAbs ≤ 4503599627370496) :
    ∃ ms', AllInt (ps'.map (·.2)) ms' ∧ ms'.sum = ms.sum + m ∧ absSum ms' ≤ absSum ms + m.natAbs := by
  rcases h with ⟨qs, t0, r, rfl, hr, rfl⟩ | ⟨_, rfl⟩
  · rw [List.map_append] at hi
    obtain ⟨ns, m0, rfl, h1, h2⟩ := allInt_split _ _ _ hi
    have ea := absSum_append ns [m0]
    have e0 : absSum [m0] = m0.natAbs := by simp [absSum]
    obtain ⟨r', e1, e2⟩ := add_int t0 t m0 m h2 hm (by unfold bin; omega)
    have hs' : r = r' := by
      rcases hr with h1 | ⟨h1, _⟩
      · rw [e1] at h1; exact (Option.some.inj h1).symm
      · rw [e1] at h1; cases h1
    subst hs'
    refine ⟨ns ++ [m0 + m], ?_, ?_, ?_⟩
    · rw [List.map_append]; exact allInt_snoc _ _ _ _ h1 e2
    · simp; omega
    · have e3 : absSum [m0 + m] = (m0 + m).natAbs := by simp [absSum]
      rw [absSum_append, e3]; omega
  · refine ⟨ms ++ [m], ?_, ?_, ?_⟩
    · rw [List.map_append]; exact allInt_snoc _ _ _ _ hi hm
    · simp
    · have e3 : absSum [m] = m.natAbs := by simp [absSum]
      rw [absSum_append, e3]; omega

theorem adds_int (sc : List (Int × Nat)) : ∀ (ps r : List (Int × Nat)) (ms : List Int), Adds ps sc r → (∀ x ∈ sc, Good x.2) → AllInt (ps.map (·.2)) ms → absSum ms + sc.length * 1099511627776 ≤ 4503599627370496 →
    ∃ ms', AllInt (r.map (·.2)) ms' ∧ ms'.sum = ms.sum + tot (sc.map (·.2)) ∧ absSum ms' ≤ 4503599627370496 := by
  induction sc with
  | nil =>
    intro ps r ms h _ hi hb
    have e : r = ps := h
    subst e
    exact ⟨ms, hi, by simp [tot], by omega⟩
  | cons x l ih =>
    intro ps r ms h hg hi hb
    obtain ⟨s, h1, h2⟩ := h
    obtain ⟨g1, _, g3⟩ := (hg x (by simp)).iv
    rw [List.length_cons] at hb
    obtain ⟨ms1, a1, a2, a3⟩ := step_int h1 g3 hi (by omega)
    obtain ⟨ms2, b1, b2, b3⟩ := ih s r ms1 h2 (fun y hy => hg y (by simp [hy])) a1 (by omega)
    refine ⟨ms2, b1, ?_, b3⟩
    have e : tot ((x :: l).map (·.2)) = iv x.2 + tot (l.map (·.2)) := by simp [tot]
    rw [e, b2, a2]; omega

theorem sumFrom_int (xs : List Nat) : ∀ (ms : List Int) (acc : Nat) (a : Int) (r : Nat), AllInt xs ms → IsInt acc a → a.natAbs + absSum ms ≤ 4503599627370496 → SumFrom acc xs r → IsInt r (a + ms.sum) := by
  induction xs with
  | nil =>
    intro ms acc a r h ha _ hs
    have e : r = acc := hs
    subst e
    match ms, h with
    | [], _ => simpa using ha
    | _ :: _, h => exact h.elim
  | cons x l ih =>
    intro ms acc a r h ha hb hs
    match ms, h with
    | [], h => exact h.elim
    | m :: ms, h =>
      obtain ⟨s, h1, h2⟩ := hs
      have e : absSum (m :: ms) = m.natAbs + absSum ms := by simp [absSum]
      rw [e] at hb
      obtain ⟨r', e1, e2⟩ := add_int acc x a m ha h.1 (by unfold bin; omega)
      have hs' : s = r' := by
        rcases h1 with h1 | ⟨h1, _⟩
        · rw [e1] at h1; exact (Option.some.inj h1).symm
        · rw [e1] at h1; cases h1
      subst hs'
      have := ih ms s (a + m) r h.2 e2 (by omega) h2
      rw [List.sum_cons, ← Int.add_assoc]; exact this

/-- The law's last line. -/
theorem conserve_eq (sc ps : List (Int × Nat)) (r : Nat) (hl : sc.length ≤ 4096) (hg : ∀ x ∈ sc, Good x.2) (h : Adds [] sc ps) (hs : SumFrom 0 (ps.map (·.2)) r) :
    (Ieee.double.order r (floatOfInt .f64 (tot (sc.map (·.2)))) == some .eq) = true := by
  obtain ⟨ms, h1, h2, h3⟩ := adds_int sc [] ps [] h hg trivial (by simp [absSum]; omega)
  have h4 := sumFrom_int _ ms 0 0 r h1 zero_int (by simpa using h3) hs
  have h5 := sum_le_abs ms
  rw [Int.zero_add, h2] at h4
  rw [h2] at h5
  simp only [List.sum_nil, Int.zero_add] at h4 h5
  exact isInt_eq _ _ _ h4 (nearest_int _ (by unfold bin; omega))

theorem adds_pos (sc : List (Int × Nat)) : ∀ (ps r : List (Int × Nat)), Adds ps sc r → sc ≠ [] → 0 < r.length := by
  induction sc with
  | nil => intro ps r _ h; exact absurd rfl h
  | cons x l ih =>
    intro ps r h _
    obtain ⟨s, h1, h2⟩ := h
    cases l with
    | nil => have e : r = s := h2; subst e; exact (addStep_le h1).1
    | cons y l => exact ih s r h2 (by simp)

end Go.Proofs.Qxb6602788aMods
