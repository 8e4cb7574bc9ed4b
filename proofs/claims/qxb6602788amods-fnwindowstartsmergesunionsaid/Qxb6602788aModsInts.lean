/-
  PLAIN: small whole numbers among the doubles: the law's own checks say what they should; a sum of them is exact; a sum of non-negatives is at least each.
-/
import Derived.Test.Qxb6602788aModsSum
namespace Go.Proofs.Qxb6602788aMods
open Fl

def loB : Nat := 14010698440749613056
def hiB : Nat := 4787326403894837248
def lim : Int := 1099511627776

theorem lo_int : IsInt loB (-lim) := by
  have h := nearest_int (-lim) (by decide +kernel)
  have e : Ieee.double.nearest (decide (-lim < 0)) (-lim).natAbs 0 = loB := by decide +kernel
  rwa [e] at h
theorem hi_int : IsInt hiB lim := by
  have h := nearest_int lim (by decide +kernel)
  have e : Ieee.double.nearest (decide (lim < 0)) lim.natAbs 0 = hiB := by decide +kernel
  rwa [e] at h

theorem ge_key {x y : Nat} (h : ((Ieee.double.order x y == some .gt) || (Ieee.double.order x y == some .eq)) = true) : Num x ∧ Num y ∧ key y ≤ key x := by
  by_cases hx : Num x
  · by_cases hy : Num y
    · refine ⟨hx, hy, ?_⟩
      rw [order_num x y hx hy] at h
      simp at h
      rcases h with h | h
      · have := Int.compare_eq_gt.1 h; omega
      · omega
    · rw [order_nan_right x y hy] at h; simp at h
  · rw [order_nan_left x y hx] at h; simp at h

theorem le_key {x y : Nat} (h : ((Ieee.double.order x y == some .lt) || (Ieee.double.order x y == some .eq)) = true) : Num x ∧ Num y ∧ key x ≤ key y := by
  by_cases hx : Num x
  · by_cases hy : Num y
    · refine ⟨hx, hy, ?_⟩
      rw [order_num x y hx hy] at h
      simp at h
      rcases h with h | h
      · have := Int.compare_eq_lt.1 h; omega
      · omega
    · rw [order_nan_right x y hy] at h; simp at h
  · rw [order_nan_left x y hx] at h; simp at h

theorem eq_key {x y : Nat} (h : (Ieee.double.order x y == some .eq) = true) : Num x ∧ Num y ∧ key x = key y := by
  by_cases hx : Num x
  · by_cases hy : Num y
    · refine ⟨hx, hy, ?_⟩
      rw [order_num x y hx hy] at h
      simp at h
      exact h
    · rw [order_nan_right x y hy] at h; simp at h
  · rw [order_nan_left x y hx] at h; simp at h

theorem ge_of_key {x y : Nat} (hx : Num x) (hy : Num y) (h : key y ≤ key x) : ((Ieee.double.order x y == some .gt) || (Ieee.double.order x y == some .eq)) = true := by
  rw [order_num x y hx hy]
  by_cases e : key x = key y
  · rw [e]; simp
  · have := Int.compare_eq_gt.2 (show key y < key x by omega)
    rw [this]; rfl

/-- The range check: the number is finite and its whole part is small. -/
theorem range_ok {x : Nat} (h1 : ((Ieee.double.order x loB == some .gt) || (Ieee.double.order x loB == some .eq)) = true)
    (h2 : ((Ieee.double.order x hiB == some .lt) || (Ieee.double.order x hiB == some .eq)) = true) :
    ∃ m : Int, m.natAbs ≤ 1099511627776 ∧ floatToIntVal .f64 x .i64 = some m ∧ Fl.Fin x := by
  obtain ⟨_, _, k1⟩ := ge_key h1
  obtain ⟨_, _, k2⟩ := le_key h2
  have s1 : S loB ≤ S x := by have := @S_lt_iff x loB; omega
  have s2 : S x ≤ S hiB := by have := @S_lt_iff hiB x; omega
  have r1 : rg loB < inf := lo_int.1
  have r2 : rg hiB < inf := hi_int.1
  have fx : Fl.Fin x := by
    unfold Fl.Fin
    unfold key sg at k1 k2
    have p1 : ng loB = true := by decide +kernel
    have p2 : ng hiB = false := by decide +kernel
    rw [p1] at k1
    rw [p2] at k2
    cases hn : ng x <;> rw [hn] at k1 k2 <;> simp only [if_true, Bool.false_eq_true, if_false] at k1 k2 <;> omega
  rw [lo_int.2] at s1
  rw [hi_int.2] at s2
  have hq : uv (rg x) / one ≤ 1099511627776 := by
    have hp := one_pos
    have : uv (rg x) ≤ 1099511627776 * one := by
      unfold S sg lim at *
      have e1 : (-1099511627776 : Int) * (one : Int) = -(1099511627776 * (one : Int)) := Int.neg_mul _ _
      have e2 : ((1099511627776 * one : Nat) : Int) = 1099511627776 * (one : Int) := Int.natCast_mul _ _
      cases hn : ng x <;> rw [hn] at s1 s2 <;> simp only [if_true, Bool.false_eq_true, if_false] at s1 s2 <;> omega
    have := Nat.div_le_div_right (c := one) this
    rwa [Nat.mul_div_cancel _ hp] at this
  have e : (FloatKind.f64.decode x).toInt .zero = some (sg (ng x) (uv (rg x) / one)) := toInt_fin x fx
  refine ⟨sg (ng x) (uv (rg x) / one), ?_, ?_, fx⟩
  · generalize uv (rg x) / one = q at *
    clear e
    unfold sg; split <;> omega
  · unfold floatToIntVal
    rw [e]
    generalize uv (rg x) / one = q at *
    clear e
    simp only
    have m1 : IntKind.i64.min = -9223372036854775808 := by decide +kernel
    have m2 : IntKind.i64.max = 9223372036854775807 := by decide +kernel
    rw [if_pos]
    rw [m1, m2]
    unfold sg; split <;> omega

/-- The wholeness check. -/
theorem whole_ok {x : Nat} {m : Int} (hm : m.natAbs ≤ 1099511627776) (fx : Fl.Fin x) (h : (Ieee.double.order (floatOfInt .f64 m) x == some .eq) = true) : IsInt x m := by
  have hn : IsInt (floatOfInt .f64 m) m := nearest_int m (by unfold bin; omega)
  obtain ⟨_, _, k⟩ := eq_key h
  refine ⟨fx, ?_⟩
  rw [← hn.2]; exact (S_eq_of_key k).symm

/-- What one value of a checked list is. -/
def Good (x : Nat) : Prop := ∃ m : Int, m.natAbs ≤ 1099511627776 ∧ floatToIntVal .f64 x .i64 = some m ∧ IsInt x m

def iv (x : Nat) : Int := (floatToIntVal .f64 x .i64).getD 0

theorem Good.iv {x : Nat} (h : Good x) : (iv x).natAbs ≤ 1099511627776 ∧ floatToIntVal .f64 x .i64 = some (iv x) ∧ IsInt x (iv x) := by
  obtain ⟨m, h1, h2, h3⟩ := h
  have : Qxb6602788aMods.iv x = m := by unfold Qxb6602788aMods.iv; rw [h2]; rfl
  rw [this]; exact ⟨h1, h2, h3⟩

def tot (l : List Nat) : Int := (l.map iv).sum

theorem tot_snoc (l : List Nat) (x : Nat) : tot (l ++ [x]) = tot l + iv x := by simp [tot]

theorem tot_bound (l : List Nat) (h : ∀ x ∈ l, Good x) : (tot l).natAbs ≤ l.length * 1099511627776 := by
  induction l with
  | nil => simp [tot]
  | cons x l ih =>
    have h1 := (h x (by simp)).iv.1
    have h2 := ih fun y hy => h y (by simp [hy])
    have e : tot (x :: l) = iv x + tot l := by simp [tot]
    rw [e, List.length_cons]; omega

/-- A sum of small whole numbers is exact. -/
theorem sum_exact (l : List Nat) : ∀ (acc : Nat) (a : Int) (r : Nat), IsInt acc a → a.natAbs + l.length * 1099511627776 ≤ 4503599627370496 → (∀ x ∈ l, Good x) → SumFrom acc l r → IsInt r (a + tot l) := by
  induction l with
  | nil =>
    intro acc a r ha _ _ hs
    have e : r = acc := hs
    rw [e]; simpa [tot] using ha
  | cons x l ih =>
    intro acc a r ha hb hg hs
    obtain ⟨s, h1, h2⟩ := hs
    obtain ⟨g1, _, g3⟩ := (hg x (by simp)).iv
    rw [List.length_cons] at hb
    obtain ⟨r', e1, e2⟩ := add_int acc x a (iv x) ha g3 (by unfold bin; omega)
    have hs' : s = r' := by
      rcases h1 with h1 | ⟨h1, _⟩
      · rw [e1] at h1; exact (Option.some.inj h1).symm
      · rw [e1] at h1; cases h1
    subst hs'
    have := ih s (a + iv x) r e2 (by omega) (fun y hy => hg y (by simp [hy])) h2
    have e : tot (x :: l) = iv x + tot l := by simp [tot]
    rw [e, ← Int.add_assoc]; exact this

theorem sum_exact0 (l : List Nat) (r : Nat) (hl : l.length ≤ 4096) (hg : ∀ x ∈ l, Good x) (hs : SumFrom 0 l r) : IsInt r (tot l) := by
  have := sum_exact l 0 0 r zero_int (by simp; omega) hg hs
  rwa [Int.zero_add] at this

theorem tot_eq {l : List Nat} {r : Nat} (hl : l.length ≤ 4096) (hg : ∀ x ∈ l, Good x) (hr : IsInt r (tot l)) : (Ieee.double.order r (floatOfInt .f64 (tot l)) == some .eq) = true := by
  have hb := tot_bound l hg
  exact isInt_eq _ _ _ hr (nearest_int _ (by unfold bin; omega))

/-! ### Non-negatives -/
def NonNeg (x : Nat) : Prop := Num x ∧ 0 ≤ key x

theorem sum_nonneg (l : List Nat) : ∀ (acc r : Nat), NonNeg acc → (∀ x ∈ l, NonNeg x) → SumFrom acc l r → NonNeg r ∧ key acc ≤ key r ∧ ∀ x ∈ l, key x ≤ key r := by
  induction l with
  | nil =>
    intro acc r ha _ hs
    have e : r = acc := hs
    rw [e]; exact ⟨ha, Int.le_refl _, fun x hx => by cases hx⟩
  | cons x l ih =>
    intro acc r ha hg hs
    obtain ⟨s, h1, h2⟩ := hs
    have hx := hg x (by simp)
    obtain ⟨r', e1, e2, e3, e4⟩ := add_nonneg acc x ha.1 hx.1 ha.2 hx.2
    have hs' : s = r' := by
      rcases h1 with h1 | ⟨h1, _⟩
      · rw [e1] at h1; exact (Option.some.inj h1).symm
      · rw [e1] at h1; cases h1
    subst hs'
    obtain ⟨i1, i2, i3⟩ := ih s r ⟨e2, by have := ha.2; omega⟩ (fun y hy => hg y (by simp [hy])) h2
    refine ⟨i1, by omega, ?_⟩
    intro y hy
    rcases List.mem_cons.1 hy with rfl | hy
    · omega
    · exact i3 y hy

theorem zero_nonneg : NonNeg 0 := ⟨zero_int.1.num, by decide +kernel⟩

theorem key_zero : key 0 = 0 := by decide +kernel

theorem nonneg_of_check {x : Nat} (h : ((Ieee.double.order x 0 == some .gt) || (Ieee.double.order x 0 == some .eq)) = true) : NonNeg x := by
  obtain ⟨h1, _, h3⟩ := ge_key h
  rw [key_zero] at h3
  exact ⟨h1, h3⟩

theorem check_of_nonneg {x : Nat} (h : NonNeg x) : ((Ieee.double.order x 0 == some .gt) || (Ieee.double.order x 0 == some .eq)) = true :=
  ge_of_key h.1 zero_nonneg.1 (by rw [key_zero]; exact h.2)

end Go.Proofs.Qxb6602788aMods
