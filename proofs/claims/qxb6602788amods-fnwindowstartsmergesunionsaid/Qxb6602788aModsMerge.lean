/-
  PLAIN: the merge of two lists of starts.
-/
import Derived.Test.Qxb6602788aModsInts
namespace Go.Proofs.Qxb6602788aMods
open Fl

def ltB (x y : Nat) : Bool := FloatKind.f64.format.order x y == some .lt
def eqB (x y : Nat) : Bool := FloatKind.f64.format.order x y == some .eq

theorem ltB_num {x y : Nat} (hx : Num x) (hy : Num y) : ltB x y = decide (key x < key y) := by
  have e : FloatKind.f64.format.order x y = some (compare (key x) (key y)) := order_num x y hx hy
  unfold ltB
  rw [e, Bool.eq_iff_iff]
  simp [Int.compare_eq_lt]
theorem eqB_num {x y : Nat} (hx : Num x) (hy : Num y) : eqB x y = decide (key x = key y) := by
  have e : FloatKind.f64.format.order x y = some (compare (key x) (key y)) := order_num x y hx hy
  unfold eqB
  rw [e, Bool.eq_iff_iff]
  simp

def mgF : Nat → List Nat → List Nat → List Nat
  | 0, _, _ => []
  | _ + 1, [], [] => []
  | f + 1, a :: A, [] => a :: mgF f A []
  | f + 1, [], b :: B => b :: mgF f [] B
  | f + 1, a :: A, b :: B => if ltB a b then a :: mgF f A (b :: B) else if ltB b a then b :: mgF f (a :: A) B else a :: mgF f A B

def mg (A B : List Nat) : List Nat := mgF (A.length + B.length) A B

theorem mgF_more (f : Nat) : ∀ (A B : List Nat), A.length + B.length ≤ f → mgF (f + 1) A B = mgF f A B := by
  induction f with
  | zero =>
    intro A B h
    have h1 : A = [] := List.eq_nil_of_length_eq_zero (by omega)
    have h2 : B = [] := List.eq_nil_of_length_eq_zero (by omega)
    subst h1 h2; rfl
  | succ f ih =>
    intro A B h
    cases A with
    | nil =>
      cases B with
      | nil => rfl
      | cons b B => simp only [mgF]; rw [← ih [] B (by simp at h ⊢; omega)]
    | cons a A =>
      cases B with
      | nil => simp only [mgF]; rw [← ih A [] (by simp at h ⊢; omega)]
      | cons b B =>
        rw [mgF, mgF, ih A (b :: B) (by simp at h ⊢; omega), ih (a :: A) B (by simp at h ⊢; omega), ih A B (by simp at h ⊢; omega)]

theorem mgF_fuel (A B : List Nat) (f : Nat) : mgF (A.length + B.length + f) A B = mg A B := by
  induction f with
  | zero => rfl
  | succ f ih => rw [← Nat.add_assoc, mgF_more _ _ _ (by omega), ih]

theorem mg_nil : mg [] [] = [] := rfl
theorem mg_left (a : Nat) (A : List Nat) : mg (a :: A) [] = a :: mg A [] := by
  show mgF ((a :: A).length + ([] : List Nat).length) (a :: A) [] = _
  rw [show (a :: A).length + ([] : List Nat).length = (A.length + ([] : List Nat).length) + 1 by simp]
  rfl
theorem mg_right (b : Nat) (B : List Nat) : mg [] (b :: B) = b :: mg [] B := by
  show mgF (([] : List Nat).length + (b :: B).length) [] (b :: B) = _
  rw [show ([] : List Nat).length + (b :: B).length = (([] : List Nat).length + B.length) + 1 by simp]
  rfl
theorem mg_cons (a b : Nat) (A B : List Nat) : mg (a :: A) (b :: B) = if ltB a b then a :: mg A (b :: B) else if ltB b a then b :: mg (a :: A) B else a :: mg A B := by
  show mgF ((a :: A).length + (b :: B).length) (a :: A) (b :: B) = _
  have e : (a :: A).length + (b :: B).length = (A.length + B.length + 1) + 1 := by simp; omega
  rw [e, mgF]
  have h1 : mgF (A.length + B.length + 1) A (b :: B) = mg A (b :: B) := by
    have := mgF_fuel A (b :: B) 0
    rw [← this]; rfl
  have h2 : mgF (A.length + B.length + 1) (a :: A) B = mg (a :: A) B := by
    have := mgF_fuel (a :: A) B 0
    rw [← this]; congr 1; simp; omega
  have h3 : mgF (A.length + B.length + 1) A B = mg A B := mgF_fuel A B 1
  rw [h1, h2, h3]

theorem mg_nil_right (A : List Nat) : mg A [] = A := by
  induction A with
  | nil => rfl
  | cons a A ih => rw [mg_left, ih]
theorem mg_nil_left (B : List Nat) : mg [] B = B := by
  induction B with
  | nil => rfl
  | cons b B ih => rw [mg_right, ih]
theorem ltB_self (a : Nat) : ltB a a = false := by
  by_cases h : Num a
  · rw [ltB_num h h]; simp
  · have e : FloatKind.f64.format.order a a = none := order_nan_left a a h
    unfold ltB; rw [e]; rfl
theorem mg_self (A : List Nat) : mg A A = A := by
  induction A with
  | nil => rfl
  | cons a A ih => rw [mg_cons, ltB_self]; simp [ih]

theorem mg_length (f : Nat) : ∀ (A B : List Nat), (mgF f A B).length ≤ A.length + B.length := by
  induction f with
  | zero => intro A B; simp [mgF]
  | succ f ih =>
    intro A B
    cases A with
    | nil =>
      cases B with
      | nil => simp [mgF]
      | cons b B => have := ih [] B; simp [mgF] at *; omega
    | cons a A =>
      cases B with
      | nil => have := ih A []; simp [mgF] at *; omega
      | cons b B =>
        have h1 := ih A (b :: B)
        have h2 := ih (a :: A) B
        have h3 := ih A B
        simp only [mgF]
        simp only [List.length_cons] at *
        split
        · simp only [List.length_cons]; omega
        · split <;> simp only [List.length_cons] <;> omega

/-! ### One run of equal values -/
def AllKey (k : Int) (l : List Nat) : Prop := ∀ x ∈ l, Num x ∧ key x = k
def AllAbove (k : Int) (l : List Nat) : Prop := ∀ x ∈ l, Num x ∧ k < key x

theorem mg_run (k : Int) (RA : List Nat) : ∀ (RB A B : List Nat), AllKey k RA → AllKey k RB → AllAbove k A → AllAbove k B → mg (RA ++ A) (RB ++ B) = RA ++ (RB.drop RA.length ++ mg A B) := by
  induction RA with
  | nil =>
    intro RB
    induction RB with
    | nil => intro A B _ _ _ _; simp
    | cons b RB ih =>
      intro A B h1 h2 h3 h4
      have hb := h2 b (by simp)
      have ih' := ih A B h1 (fun x hx => h2 x (by simp [hx])) h3 h4
      simp only [List.nil_append, List.length_nil, List.drop_zero, List.cons_append] at *
      cases A with
      | nil => rw [mg_right, ih']
      | cons a A =>
        have ha := h3 a (by simp)
        rw [mg_cons, ltB_num ha.1 hb.1, ltB_num hb.1 ha.1, if_neg (by simp; omega), if_pos (by simp; omega), ih']
  | cons a RA ih =>
    intro RB A B h1 h2 h3 h4
    have ha := h1 a (by simp)
    cases RB with
    | nil =>
      have ih' := ih [] A B (fun x hx => h1 x (by simp [hx])) h2 h3 h4
      simp only [List.nil_append, List.drop_nil, List.cons_append] at *
      cases B with
      | nil => rw [mg_left, ih']
      | cons b B =>
        have hb := h4 b (by simp)
        rw [mg_cons, ltB_num ha.1 hb.1, if_pos (by simp; omega), ih']
    | cons b RB =>
      have hb := h2 b (by simp)
      have ih' := ih RB A B (fun x hx => h1 x (by simp [hx])) (fun x hx => h2 x (by simp [hx])) h3 h4
      simp only [List.cons_append, List.length_cons, List.drop_succ_cons] at *
      rw [mg_cons, ltB_num ha.1 hb.1, ltB_num hb.1 ha.1, if_neg (by simp; omega), if_neg (by simp; omega), ih']

/-- No NaN, each key at least the one before. -/
def Srt (A : List Nat) : Prop := ∀ i (h : i < A.length), Num A[i] ∧ ∀ j (hj : j < i), key A[j] ≤ key A[i]

theorem srt_of_steps {A : List Nat} (h : ∀ i (h : i < A.length), Num A[i] ∧ (∀ h0 : 0 < i, key A[i - 1] ≤ key A[i])) : Srt A := by
  intro i hi
  refine ⟨(h i hi).1, ?_⟩
  induction i with
  | zero => intro j hj; omega
  | succ i ih =>
    intro j hj
    have h1 := (h (i + 1) hi).2 (by omega)
    simp only [Nat.add_sub_cancel] at h1
    by_cases e : j = i
    · subst e; exact h1
    · exact Int.le_trans (ih (by omega) j (by omega)) h1

theorem Srt.drop {A : List Nat} (h : Srt A) (k : Nat) : Srt (A.drop k) := by
  intro i hi
  have hi' : k + i < A.length := by simp at hi; omega
  have := h (k + i) hi'
  refine ⟨by simpa using this.1, fun j hj => ?_⟩
  simpa using this.2 (k + j) (by omega)

theorem srt_tail {a : Nat} {A : List Nat} (h : Srt (a :: A)) : Srt A := by simpa using h.drop 1

theorem srt_head {a : Nat} {A : List Nat} (h : Srt (a :: A)) : Num a ∧ ∀ x ∈ A, key a ≤ key x := by
  refine ⟨(h 0 (by simp)).1, fun x hx => ?_⟩
  obtain ⟨i, hi, rfl⟩ := List.getElem_of_mem hx
  exact (h (i + 1) (by simpa using hi)).2 0 (by omega)

/-- A sorted list none of whose keys lies under k falls into those at k and those above. -/
theorem split_at (k : Int) (A : List Nat) : Srt A → (∀ x ∈ A, k ≤ key x) → ∃ R Y, A = R ++ Y ∧ AllKey k R ∧ AllAbove k Y := by
  induction A with
  | nil => intro _ _; exact ⟨[], [], rfl, (fun x hx => by cases hx), (fun x hx => by cases hx)⟩
  | cons a A ih =>
    intro hs hk
    obtain ⟨ha, hle⟩ := srt_head hs
    by_cases e : key a = k
    · obtain ⟨R, Y, rfl, h1, h2⟩ := ih (srt_tail hs) (fun x hx => hk x (by simp [hx]))
      refine ⟨a :: R, Y, rfl, ?_, h2⟩
      intro x hx
      rcases List.mem_cons.1 hx with rfl | hx
      · exact ⟨ha, e⟩
      · exact h1 x hx
    · have hlt : k < key a := by have := hk a (by simp); omega
      refine ⟨[], a :: A, rfl, (fun x hx => by cases hx), ?_⟩
      intro x hx
      rcases List.mem_cons.1 hx with rfl | hx
      · exact ⟨ha, hlt⟩
      · obtain ⟨i, hi, rfl⟩ := List.getElem_of_mem hx
        exact ⟨(srt_tail hs i hi).1, by have := hle A[i] (List.getElem_mem hi); omega⟩

end Go.Proofs.Qxb6602788aMods
