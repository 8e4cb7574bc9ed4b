/-
  PLAIN: the merge of two sorted lists, run by run.
-/
import Derived.Test.Qxb6602788aModsMerge
namespace Go.Proofs.Qxb6602788aMods
open Fl

theorem mem_mgF (f : Nat) : ∀ (A B : List Nat) (x : Nat), x ∈ mgF f A B → x ∈ A ∨ x ∈ B := by
  induction f with
  | zero => intro A B x h; simp [mgF] at h
  | succ f ih =>
    intro A B x h
    cases A with
    | nil =>
      cases B with
      | nil => simp [mgF] at h
      | cons b B =>
        simp only [mgF] at h
        rcases List.mem_cons.1 h with rfl | h
        · exact .inr (by simp)
        · rcases ih [] B x h with h | h
          · cases h
          · exact .inr (by simp [h])
    | cons a A =>
      cases B with
      | nil =>
        simp only [mgF] at h
        rcases List.mem_cons.1 h with rfl | h
        · exact .inl (by simp)
        · rcases ih A [] x h with h | h
          · exact .inl (by simp [h])
          · cases h
      | cons b B =>
        simp only [mgF] at h
        split at h
        · rcases List.mem_cons.1 h with rfl | h
          · exact .inl (by simp)
          · rcases ih A (b :: B) x h with h | h
            · exact .inl (by simp [h])
            · exact .inr h
        · split at h
          · rcases List.mem_cons.1 h with rfl | h
            · exact .inr (by simp)
            · rcases ih (a :: A) B x h with h | h
              · exact .inl h
              · exact .inr (by simp [h])
          · rcases List.mem_cons.1 h with rfl | h
            · exact .inl (by simp)
            · rcases ih A B x h with h | h
              · exact .inl (by simp [h])
              · exact .inr (by simp [h])

theorem mem_mg {A B : List Nat} {x : Nat} (h : x ∈ mg A B) : x ∈ A ∨ x ∈ B := mem_mgF _ A B x h

theorem mg_eq_nil {A B : List Nat} (h : mg A B = []) : A = [] ∧ B = [] := by
  cases A with
  | nil =>
    cases B with
    | nil => exact ⟨rfl, rfl⟩
    | cons b B => rw [mg_right] at h; cases h
  | cons a A =>
    cases B with
    | nil => rw [mg_left] at h; cases h
    | cons b B =>
      rw [mg_cons] at h
      split at h
      · cases h
      · split at h <;> cases h

/-- The law's state between two values. -/
structure USt (A B O : List Nat) (s tA tB : Nat) : Prop where
  ls : s ≤ O.length
  la : tA ≤ A.length
  lb : tB ≤ B.length
  mgd : O.drop s = mg (A.drop tA) (B.drop tB)
  pa : ∀ i, i < tA → ∀ x, x ∈ A.drop tA ∨ x ∈ B.drop tB → Num (A.getD i 0) ∧ key (A.getD i 0) < key x
  pb : ∀ i, i < tB → ∀ x, x ∈ A.drop tA ∨ x ∈ B.drop tB → Num (B.getD i 0) ∧ key (B.getD i 0) < key x

structure URound (A B O : List Nat) (s tA tB rA rB : Nat) : Prop where
  pos : 0 < max rA rB
  len : s + max rA rB ≤ O.length
  num : ∀ t, t < max rA rB → Num (O.getD (s + t) 0) ∧ key (O.getD (s + t) 0) = key (O.getD s 0)
  next : s + max rA rB < O.length → Num (O.getD (s + max rA rB) 0) ∧ key (O.getD s 0) < key (O.getD (s + max rA rB) 0)
  la : tA + rA ≤ A.length
  lb : tB + rB ≤ B.length
  ea : ∀ i, i < A.length → eqB (A.getD i 0) (O.getD s 0) = decide (tA ≤ i ∧ i < tA + rA)
  eb : ∀ i, i < B.length → eqB (B.getD i 0) (O.getD s 0) = decide (tB ≤ i ∧ i < tB + rB)
  ca : ∀ t, t < rA → O.getD (s + t) 0 = A.getD (tA + t) 0
  cb : ∀ t, rA ≤ t → t < rB → O.getD (s + t) 0 = B.getD (tB + t) 0
  st : USt A B O (s + max rA rB) (tA + rA) (tB + rB)

theorem getD_drop (l : List Nat) (s t : Nat) : l.getD (s + t) 0 = (l.drop s).getD t 0 := by
  simp [List.getD]

theorem getD_at (l : List Nat) {t : Nat} (h : t < l.length) : l.getD t 0 = l[t] := by
  simp only [List.getD, List.getElem?_eq_getElem h, Option.getD_some]
theorem getD_app (l m : List Nat) {t : Nat} (h : t < l.length) : (l ++ m).getD t 0 = l[t] := by
  simp only [List.getD, List.getElem?_append_left h, List.getElem?_eq_getElem h, Option.getD_some]

theorem ust_start (A B : List Nat) : USt A B (mg A B) 0 0 0 :=
  ⟨Nat.zero_le _, Nat.zero_le _, Nat.zero_le _, rfl, fun _ h => absurd h (Nat.not_lt_zero _), fun _ h => absurd h (Nat.not_lt_zero _)⟩

theorem ust_end {A B O : List Nat} {tA tB : Nat} (h : USt A B O O.length tA tB) : tA = A.length ∧ tB = B.length := by
  have h1 := h.mgd
  rw [List.drop_length] at h1
  obtain ⟨h2, h3⟩ := mg_eq_nil h1.symm
  have h4 := congrArg List.length h2
  have h5 := congrArg List.length h3
  simp at h4 h5
  have := h.la; have := h.lb
  omega

/-- The least key of what is left. -/
theorem least_key {P Q : List Nat} (hP : Srt P) (hQ : Srt Q) (hne : ¬ (P = [] ∧ Q = [])) : ∃ k, (∀ x ∈ P, k ≤ key x) ∧ (∀ x ∈ Q, k ≤ key x) ∧ ((∃ x ∈ P, key x = k) ∨ ∃ x ∈ Q, key x = k) := by
  cases P with
  | nil =>
    cases Q with
    | nil => exact absurd ⟨rfl, rfl⟩ hne
    | cons b Q =>
      obtain ⟨_, h⟩ := srt_head hQ
      refine ⟨key b, (fun x hx => by cases hx), ?_, .inr ⟨b, by simp, rfl⟩⟩
      intro x hx
      rcases List.mem_cons.1 hx with rfl | hx
      · exact Int.le_refl _
      · exact h x hx
  | cons a P =>
    obtain ⟨_, h1⟩ := srt_head hP
    cases Q with
    | nil =>
      refine ⟨key a, ?_, (fun x hx => by cases hx), .inl ⟨a, by simp, rfl⟩⟩
      intro x hx
      rcases List.mem_cons.1 hx with rfl | hx
      · exact Int.le_refl _
      · exact h1 x hx
    | cons b Q =>
      obtain ⟨_, h2⟩ := srt_head hQ
      have hP' : ∀ x ∈ a :: P, key a ≤ key x := by
        intro x hx
        rcases List.mem_cons.1 hx with rfl | hx
        · exact Int.le_refl _
        · exact h1 x hx
      have hQ' : ∀ x ∈ b :: Q, key b ≤ key x := by
        intro x hx
        rcases List.mem_cons.1 hx with rfl | hx
        · exact Int.le_refl _
        · exact h2 x hx
      by_cases h : key a ≤ key b
      · exact ⟨key a, hP', fun x hx => Int.le_trans h (hQ' x hx), .inl ⟨a, by simp, rfl⟩⟩
      · exact ⟨key b, fun x hx => Int.le_trans (by omega) (hP' x hx), hQ', .inr ⟨b, by simp, rfl⟩⟩

/-- Which places of A hold the value of key k. -/
theorem eq_places {A : List Nat} {tA : Nat} {R Y : List Nat} {k : Int} {v : Nat} (hs : Srt A) (hd : A.drop tA = R ++ Y) (hR : AllKey k R) (hY : AllAbove k Y) (hlo : ∀ i, i < tA → key (A.getD i 0) < k) (hv : Num v ∧ key v = k) :
    ∀ i, i < A.length → eqB (A.getD i 0) v = decide (tA ≤ i ∧ i < tA + R.length) := by
  intro i hi
  have hn : Num (A.getD i 0) := by
    have := (hs i hi).1
    simpa [List.getD, hi] using this
  rw [eqB_num hn hv.1, hv.2]
  by_cases h1 : i < tA
  · have := hlo i h1
    rw [decide_eq_false (by omega), decide_eq_false (by omega)]
  · obtain ⟨d, rfl⟩ : ∃ d, i = tA + d := ⟨i - tA, by omega⟩
    rw [getD_drop, hd]
    by_cases h2 : d < R.length
    · have e : (R ++ Y).getD d 0 = R[d] := getD_app R Y h2
      rw [e, decide_eq_true (hR _ (List.getElem_mem h2)).2, decide_eq_true (by omega)]
    · have hlen := congrArg List.length hd
      simp at hlen
      have h3 : d - R.length < Y.length := by omega
      have e : (R ++ Y).getD d 0 = Y[d - R.length] := by simp [List.getD, List.getElem?_append_right (show R.length ≤ d by omega), h3]
      have := (hY _ (List.getElem_mem h3)).2
      rw [e, decide_eq_false (by omega), decide_eq_false (by omega)]

theorem uround {A B O : List Nat} {s tA tB : Nat} (hA : Srt A) (hB : Srt B) (h : USt A B O s tA tB) (hs : s < O.length) : ∃ rA rB, URound A B O s tA tB rA rB := by
  have hne : ¬ (A.drop tA = [] ∧ B.drop tB = []) := by
    rintro ⟨h1, h2⟩
    have h3 := h.mgd
    rw [h1, h2, mg_nil] at h3
    have := congrArg List.length h3
    simp at this; omega
  obtain ⟨k, k1, k2, k3⟩ := least_key (hA.drop tA) (hB.drop tB) hne
  obtain ⟨RA, YA, ea, a1, a2⟩ := split_at k _ (hA.drop tA) k1
  obtain ⟨RB, YB, eb, b1, b2⟩ := split_at k _ (hB.drop tB) k2
  have hrun := mg_run k RA RB YA YB a1 b1 a2 b2
  rw [← ea, ← eb, ← h.mgd] at hrun
  have hpos : 0 < max RA.length RB.length := by
    rcases k3 with ⟨x, hx, hk⟩ | ⟨x, hx, hk⟩
    · rw [ea] at hx
      rcases List.mem_append.1 hx with hx | hx
      · have := List.length_pos_of_mem hx; omega
      · have := (a2 x hx).2; omega
    · rw [eb] at hx
      rcases List.mem_append.1 hx with hx | hx
      · have := List.length_pos_of_mem hx; omega
      · have := (b2 x hx).2; omega
  have lenA : A.length = tA + RA.length + YA.length := by
    have h1 := congrArg List.length ea
    have := h.la
    simp at h1; omega
  have lenB : B.length = tB + RB.length + YB.length := by
    have h1 := congrArg List.length eb
    have := h.lb
    simp at h1; omega
  have lenO : O.length = s + max RA.length RB.length + (mg YA YB).length := by
    have h1 := congrArg List.length hrun
    simp at h1; omega
  have hca : ∀ t, t < RA.length → O.getD (s + t) 0 = RA.getD t 0 := by
    intro t ht
    rw [getD_drop, hrun, getD_app _ _ ht, getD_at _ ht]
  have hcb : ∀ t, RA.length ≤ t → t < RB.length → O.getD (s + t) 0 = RB.getD t 0 := by
    intro t h1 h2
    rw [getD_drop, hrun]
    have e1 : (RA ++ (RB.drop RA.length ++ mg YA YB))[t]? = (RB.drop RA.length)[t - RA.length]? := by
      rw [List.getElem?_append_right h1, List.getElem?_append_left (by simp; omega)]
    have e2 : (RB.drop RA.length)[t - RA.length]? = RB[t]? := by
      rw [List.getElem?_drop]; congr 1; omega
    simp only [List.getD, e1, e2]
  have hnum : ∀ t, t < max RA.length RB.length → Num (O.getD (s + t) 0) ∧ key (O.getD (s + t) 0) = k := by
    intro t ht
    by_cases c : t < RA.length
    · rw [hca t c]
      have : RA.getD t 0 = RA[t] := by simp [List.getD, c]
      rw [this]; exact a1 _ (List.getElem_mem c)
    · have c2 : t < RB.length := by omega
      rw [hcb t (by omega) c2]
      have : RB.getD t 0 = RB[t] := by simp [List.getD, c2]
      rw [this]; exact b1 _ (List.getElem_mem c2)
  have hv := hnum 0 hpos
  rw [Nat.add_zero] at hv
  have hdropO : O.drop (s + max RA.length RB.length) = mg YA YB := by
    rw [← List.drop_drop, hrun, ← List.append_assoc]
    have e : (RA ++ RB.drop RA.length).length = max RA.length RB.length := by simp; omega
    rw [← e, List.drop_left]
  have hdropA : A.drop (tA + RA.length) = YA := by rw [← List.drop_drop, ea, List.drop_left]
  have hdropB : B.drop (tB + RB.length) = YB := by rw [← List.drop_drop, eb, List.drop_left]
  have habove : ∀ x, x ∈ YA ∨ x ∈ YB → Num x ∧ k < key x := fun x hx => hx.elim (a2 x) (b2 x)
  -- something is left at k or above: the earlier ones lie under k
  have hloA : ∀ i, i < tA → key (A.getD i 0) < k := by
    intro i hi
    rcases k3 with ⟨x, hx, hk⟩ | ⟨x, hx, hk⟩
    · have := (h.pa i hi x (.inl hx)).2; omega
    · have := (h.pa i hi x (.inr hx)).2; omega
  have hloB : ∀ i, i < tB → key (B.getD i 0) < k := by
    intro i hi
    rcases k3 with ⟨x, hx, hk⟩ | ⟨x, hx, hk⟩
    · have := (h.pb i hi x (.inl hx)).2; omega
    · have := (h.pb i hi x (.inr hx)).2; omega
  refine ⟨RA.length, RB.length, ⟨hpos, by omega, ?_, ?_, by omega, by omega, eq_places hA ea a1 a2 hloA hv, eq_places hB eb b1 b2 hloB hv, ?_, ?_, ?_⟩⟩
  · intro t ht
    have := hnum t ht
    exact ⟨this.1, by rw [this.2, hv.2]⟩
  · intro hlt
    have hpm : 0 < (mg YA YB).length := by omega
    have e : O.getD (s + max RA.length RB.length) 0 = (mg YA YB)[0] := by
      have := getD_drop O (s + max RA.length RB.length) 0
      rw [Nat.add_zero, hdropO] at this
      rw [this]; simp [List.getD, hpm]
    have := habove _ (mem_mg (List.getElem_mem hpm))
    rw [e, hv.2]; exact this
  · intro t ht
    rw [hca t ht, getD_drop, ea, getD_app _ _ ht, getD_at _ ht]
  · intro t h1 h2
    rw [hcb t h1 h2, getD_drop, eb, getD_app _ _ h2, getD_at _ h2]
  · refine ⟨by omega, by omega, by omega, by rw [hdropO, hdropA, hdropB], ?_, ?_⟩
    · intro i hi x hx
      rw [hdropA, hdropB] at hx
      have hx' := habove x hx
      have hil : i < A.length := by omega
      have hn : Num (A.getD i 0) := by
        have := (hA i hil).1
        simpa [List.getD, hil] using this
      refine ⟨hn, ?_⟩
      by_cases c : i < tA
      · have := hloA i c; omega
      · obtain ⟨d, rfl⟩ : ∃ d, i = tA + d := ⟨i - tA, by omega⟩
        have hd : d < RA.length := by omega
        rw [getD_drop, ea]
        have e : (RA ++ YA).getD d 0 = RA[d] := getD_app RA YA hd
        rw [e, (a1 _ (List.getElem_mem hd)).2]; exact hx'.2
    · intro i hi x hx
      rw [hdropA, hdropB] at hx
      have hx' := habove x hx
      have hil : i < B.length := by omega
      have hn : Num (B.getD i 0) := by
        have := (hB i hil).1
        simpa [List.getD, hil] using this
      refine ⟨hn, ?_⟩
      by_cases c : i < tB
      · have := hloB i c; omega
      · obtain ⟨d, rfl⟩ : ∃ d, i = tB + d := ⟨i - tB, by omega⟩
        have hd : d < RB.length := by omega
        rw [getD_drop, eb]
        have e : (RB ++ YB).getD d 0 = RB[d] := getD_app RB YB hd
        rw [e, (b1 _ (List.getElem_mem hd)).2]; exact hx'.2

end Go.Proofs.Qxb6602788aMods
