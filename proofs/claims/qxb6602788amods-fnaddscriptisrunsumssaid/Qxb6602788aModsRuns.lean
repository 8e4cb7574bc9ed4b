/-
  PLAIN: sums as numbers (a NaN as good as another, +0 as -0); what a script of admissions comes to: one entry a run.
-/
import Derived.Test.Qxb6602788aModsInts
import Derived.Test.Qxb6602788aModsScript
namespace Go.Proofs.Qxb6602788aMods
open Fl

/-- Both NaN, or equal as numbers. -/
def Same (x y : Nat) : Prop := (¬ Num x ∧ ¬ Num y) ∨ (Num x ∧ Num y ∧ key x = key y)

theorem add_nan_left {x y : Nat} (h : ¬ Num x) : Ieee.double.add x y = none := by
  obtain ⟨s, f, e⟩ := read_nan x h
  unfold Ieee.Format.add; rw [e]; rfl
theorem add_nan_right {x y : Nat} (h : ¬ Num y) : Ieee.double.add x y = none := by
  obtain ⟨s, f, e⟩ := read_nan y h
  unfold Ieee.Format.add; rw [e]
  cases Ieee.double.read x <;> rfl

theorem addR_nan {x y r : Nat} (h : Ieee.double.add x y = none) (hr : AddR x y r) : ¬ Num r := by
  rcases hr with h1 | ⟨_, h2⟩
  · rw [h] at h1; cases h1
  · exact h2
theorem addR_some {x y r q : Nat} (h : Ieee.double.add x y = some q) (hr : AddR x y r) : r = q := by
  rcases hr with h1 | ⟨h1, _⟩
  · rw [h] at h1; exact (Option.some.inj h1).symm
  · rw [h] at h1; cases h1

theorem key_inf {x : Nat} (h : rg x = inf) : key x = sg (ng x) inf := by unfold key; rw [h]

theorem sg_inj_inf {b c : Bool} {n : Nat} (h : sg b inf = sg c n) : n = inf ∧ c = b := by
  have hpos : (0 : Nat) < inf := by unfold inf; omega
  generalize inf = z at *
  unfold sg at h
  cases b <;> cases c <;> simp at h <;> first | (exact ⟨by omega, rfl⟩) | (exfalso; omega)

theorem num_word (b : Bool) (r : Nat) (h : r ≤ inf) : Num (Ieee.double.word b r) := by
  unfold Num; rw [rg_word _ _ (Nat.lt_of_le_of_lt h inf_lt_sw)]; exact h

theorem add_fin_inf {x v : Nat} (fx : Fl.Fin x) (ev : rg v = inf) : Ieee.double.add x v = some (Ieee.double.word (ng v) inf) := by
  obtain ⟨m, k, rx, _⟩ := read_fin x fx
  unfold Ieee.Format.add; rw [rx, read_inf v ev]; simp only [Ieee.Datum.sum, Option.map_some, Ieee.Format.write, D_inf]

theorem same_refl (x : Nat) : Same x x := by
  by_cases h : Num x
  · exact .inr ⟨h, h, rfl⟩
  · exact .inl ⟨h, h⟩

theorem zero_sg (b : Bool) (z : Nat) : key (Ieee.double.word b (min (rd 0) z)) = 0 := by
  rw [rd_zero, Nat.zero_min, key_word _ _ (by unfold sw; omega), sg_zero]

theorem same_add {x y v p q : Nat} (h : Same x y) (hp : AddR x v p) (hq : AddR y v q) : Same p q := by
  by_cases hv : Num v
  · rcases h with ⟨h1, h2⟩ | ⟨h1, h2, hk⟩
    · exact .inl ⟨addR_nan (add_nan_left h1) hp, addR_nan (add_nan_left h2) hq⟩
    · by_cases fx : Fl.Fin x
      · have fy : Fl.Fin y := by
          unfold Fl.Fin at *
          by_cases e : rg y = inf
          · exfalso
            rw [key_inf e] at hk
            have := (sg_inj_inf hk.symm).1
            omega
          · unfold Num at h2; omega
        by_cases fv : Fl.Fin v
        · have hS : S x = S y := S_eq_of_key hk
          have ep := addR_some (add_fin x v fx fv) hp
          have eq := addR_some (add_fin y v fy fv) hq
          rw [← hS] at eq
          subst ep eq
          refine .inr ⟨num_word _ _ (Nat.min_le_right _ _), num_word _ _ (Nat.min_le_right _ _), ?_⟩
          by_cases hz : S x + S v = 0
          · have e0 : (S x + S v).natAbs = 0 := by rw [hz]; rfl
            rw [e0, zero_sg, zero_sg]
          · rw [if_neg hz, if_neg hz]
        · have ev : rg v = inf := by unfold Fl.Fin at fv; unfold Num at hv; omega
          have ep := addR_some (add_fin_inf fx ev) hp
          have eq := addR_some (add_fin_inf fy ev) hq
          subst ep eq
          exact same_refl _
      · have ex : rg x = inf := by unfold Fl.Fin at fx; unfold Num at h1; omega
        rw [key_inf ex] at hk
        obtain ⟨ey, es⟩ := sg_inj_inf (by unfold key at hk; exact hk)
        have er : Ieee.double.read x = Ieee.double.read y := by rw [read_inf x ex, read_inf y ey, es]
        have ea : Ieee.double.add x v = Ieee.double.add y v := by unfold Ieee.Format.add; rw [er]
        cases hxv : Ieee.double.add x v with
        | none => exact .inl ⟨addR_nan hxv hp, addR_nan (by rw [← ea]; exact hxv) hq⟩
        | some r =>
          have ep := addR_some hxv hp
          have eq := addR_some (by rw [← ea]; exact hxv) hq
          subst ep
          rw [eq]
          exact same_refl _
  · exact .inl ⟨addR_nan (add_nan_right hv) hp, addR_nan (add_nan_right hv) hq⟩

theorem S_zero : S 0 = 0 := by have := zero_int.2; rwa [Int.zero_mul] at this

theorem same_zero_add {v r : Nat} (h : AddR 0 v r) : Same v r := by
  by_cases hv : Num v
  · by_cases fv : Fl.Fin v
    · have e := addR_some (add_fin 0 v zero_int.1 fv) h
      rw [S_zero, Int.zero_add] at e
      have ha : (S v).natAbs = uv (rg v) := by unfold S sg; split <;> omega
      rw [ha, rd_uv, Nat.min_eq_left (Nat.le_of_lt fv)] at e
      have hsw : rg v < sw := Nat.lt_of_lt_of_le fv (Nat.le_of_lt inf_lt_sw)
      subst e
      refine .inr ⟨hv, num_word _ _ (Nat.le_of_lt fv), ?_⟩
      rw [key_word _ _ hsw]
      by_cases hz : S v = 0
      · rw [hz] at ha
        have : rg v = 0 := uv_inj (by rw [uv_zero]; omega)
        unfold key
        rw [this, sg_zero, sg_zero]
      · rw [if_neg hz]
        unfold key
        congr 1
        unfold S at hz ⊢
        cases hn : ng v with
        | false => rw [sg_false]; symm; simp
        | true => rw [hn, sg_true] at hz; rw [sg_true]; symm; simp; omega
    · have ev : rg v = inf := by unfold Fl.Fin at fv; unfold Num at hv; omega
      have e := addR_some (add_fin_inf zero_int.1 ev) h
      subst e
      refine .inr ⟨hv, num_word _ _ (Nat.le_refl _), ?_⟩
      rw [key_word _ _ inf_lt_sw, key_inf ev]
  · exact .inl ⟨hv, addR_nan (add_nan_right hv) h⟩

theorem same_sum (l : List Nat) : ∀ (a b x y : Nat), Same a b → SumFrom a l x → SumFrom b l y → Same x y := by
  induction l with
  | nil =>
    intro a b x y h hx hy
    have e1 : x = a := hx
    have e2 : y = b := hy
    subst e1 e2; exact h
  | cons v l ih =>
    intro a b x y h hx hy
    obtain ⟨s, h1, h2⟩ := hx
    obtain ⟨t, h3, h4⟩ := hy
    exact ih s t x y (same_add h h1 h3) h2 h4

/-- An entry that began with its first token, against a sum that began with zero. -/
theorem same_run {t0 t r : Nat} {l : List Nat} (h : SumFrom t0 l t) (hr : SumFrom 0 (t0 :: l) r) : Same t r := by
  obtain ⟨s, h1, h2⟩ := hr
  exact same_sum l t0 s t r (same_zero_add h1) h h2

/-! ### Runs -/
def Runs : List (Int × Nat) → List (Int × Nat) → Prop
  | sc, [] => sc = []
  | sc, (i, t) :: ps => ∃ t0 l rest, sc = (i, t0) :: (l ++ rest) ∧ (∀ x ∈ l, x.1 = i) ∧ (∀ y ys, rest = y :: ys → y.1 ≠ i) ∧ SumFrom t0 (l.map (·.2)) t ∧ Runs rest ps

theorem runs_one (i : Int) (t : Nat) : Runs [(i, t)] [(i, t)] :=
  ⟨t, [], [], rfl, (fun x hx => by cases hx), (fun y ys h => by cases h), rfl, rfl⟩

theorem addStep_cons {j : Int} {u : Nat} {p : Int × Nat} {ps ps' : List (Int × Nat)} {i : Int} {t : Nat} (h : AddStep ((j, u) :: p :: ps) i t ps') : ∃ qs, ps' = (j, u) :: qs ∧ AddStep (p :: ps) i t qs := by
  rcases h with ⟨qs, t0, r, h1, h2, rfl⟩ | ⟨h1, rfl⟩
  · cases qs with
    | nil => simp at h1
    | cons q qs =>
      simp only [List.cons_append, List.cons.injEq] at h1
      obtain ⟨rfl, h1⟩ := h1
      exact ⟨qs ++ [(i, r)], rfl, .inl ⟨qs, t0, r, h1, h2, rfl⟩⟩
  · refine ⟨p :: ps ++ [(i, t)], rfl, .inr ⟨?_, rfl⟩⟩
    intro qs k t0 h
    exact h1 ((j, u) :: qs) k t0 (by rw [h]; rfl)

theorem runs_step (ps : List (Int × Nat)) : ∀ (sc ps' : List (Int × Nat)) (i : Int) (t : Nat), Runs sc ps → AddStep ps i t ps' → Runs (sc ++ [(i, t)]) ps' := by
  induction ps with
  | nil =>
    intro sc ps' i t h hs
    have e : sc = [] := h
    subst e
    rcases hs with ⟨qs, t0, r, h1, _⟩ | ⟨_, rfl⟩
    · have := congrArg List.length h1; simp at this
    · exact runs_one i t
  | cons p ps ih =>
    obtain ⟨j, u⟩ := p
    intro sc ps' i t h hs
    obtain ⟨t0, l, rest, rfl, h1, h2, h3, h4⟩ := h
    cases ps with
    | nil =>
      have e : rest = [] := h4
      subst e
      rcases hs with ⟨qs, u0, r, e1, e2, rfl⟩ | ⟨e1, rfl⟩
      · cases qs with
        | cons q qs => have := congrArg List.length e1; simp at this
        | nil =>
          simp at e1
          obtain ⟨rfl, rfl⟩ := e1
          refine ⟨t0, l ++ [(j, t)], [], by simp, ?_, (fun y ys h => by cases h), ?_, rfl⟩
          · intro x hx
            rcases List.mem_append.1 hx with hx | hx
            · exact h1 x hx
            · simp at hx; rw [hx]
          · rw [List.map_append]; exact (sumFrom_snoc _ _ _ _).2 ⟨u, h3, e2⟩
      · have hne : j ≠ i := e1 [] j u rfl
        refine ⟨t0, l, [(i, t)], by simp, h1, ?_, h3, runs_one i t⟩
        intro y ys h
        simp at h
        rw [← h.1]; exact fun e => hne e.symm
    | cons q ps =>
      obtain ⟨qs, rfl, hq⟩ := addStep_cons hs
      have hr := ih rest qs i t h4 hq
      refine ⟨t0, l, rest ++ [(i, t)], by simp, h1, ?_, h3, hr⟩
      obtain ⟨qi, qt⟩ := q
      obtain ⟨v0, lv, restv, e, _⟩ := h4
      intro y ys hy
      rw [e] at hy
      simp at hy
      exact h2 y _ (by rw [e, hy.1])

theorem runs_of_adds (sc : List (Int × Nat)) : ∀ (pre ps r : List (Int × Nat)), Runs pre ps → Adds ps sc r → Runs (pre ++ sc) r := by
  induction sc with
  | nil =>
    intro pre ps r h ha
    have e : r = ps := ha
    subst e; simpa using h
  | cons x l ih =>
    intro pre ps r h ha
    obtain ⟨s, h1, h2⟩ := ha
    have := ih (pre ++ [x]) s r (runs_step ps pre s x.1 x.2 h h1) h2
    simpa using this

theorem runs_script {sc ps : List (Int × Nat)} (h : Adds [] sc ps) : Runs sc ps := by
  have := runs_of_adds sc [] [] ps rfl h
  simpa using this

end Go.Proofs.Qxb6602788aMods
