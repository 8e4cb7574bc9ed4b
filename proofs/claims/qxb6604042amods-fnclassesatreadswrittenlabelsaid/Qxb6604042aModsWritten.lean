/-
  PLAIN: the label that the law writes, and what classesAt meets in it.
-/
import Derived.Test.Qxb6604042aModsClasses
namespace Go.Proofs.Qxb6604042aMods

/-! ### 'opens with', on lists -/
def hpl : List UInt8 → List UInt8 → Bool
  | _, [] => true
  | [], _ :: _ => false
  | a :: l, b :: p => a == b && hpl l p

theorem hpl_take (l p : List UInt8) : (l.take p.length == p) = hpl l p := by
  induction p generalizing l with
  | nil => simp [hpl]
  | cons b p ih =>
    cases l with
    | nil => rfl
    | cons a l => simp only [List.length_cons, List.take_succ_cons, hpl, ← ih]; rfl

theorem hp_hpl (x p : ByteArray) : hp x p = hpl (bl x) (bl p) := by
  unfold hp
  rw [← bl_length p, hpl_take]

theorem hpl_app (p l : List UInt8) : hpl (p ++ l) p = true := by
  induction p with
  | nil => cases l <;> rfl
  | cons a p ih => simp [hpl, ih]

/-! ### The label -/
def lei : List UInt8 := [231, 177, 187]
def jj : List UInt8 := [229, 159, 186, 233, 135, 145, 228, 187, 189, 233, 162, 157]
def fe : List UInt8 := [228, 187, 189, 233, 162, 157]
def sepB (k : Nat) : List UInt8 := bl (sepS k)
def sepO (k : Nat) : List UInt8 := if k = 0 then [] else sepB k
def tailB (n k : Nat) : List UInt8 := if k + 1 = n then jj else if k % 2 = 1 then fe else []
def letU (lt : ByteArray) (k : Nat) : UInt8 := (bl lt).getD k 0
def itemB (lt : ByteArray) (k : Nat) : List UInt8 := sepO k ++ (letU lt k :: (lei ++ tailB lt.size k))
def labTo (lt : ByteArray) : Nat → List UInt8
  | 0 => []
  | k + 1 => labTo lt k ++ itemB lt k
def labFrom (lt : ByteArray) : Nat → Nat → List UInt8
  | _, 0 => []
  | k, m + 1 => itemB lt k ++ labFrom lt (k + 1) m

theorem lab_split (lt : ByteArray) (m : Nat) : ∀ k, labTo lt (k + m) = labTo lt k ++ labFrom lt k m := by
  induction m with
  | zero => intro k; simp [labFrom]
  | succ m ih =>
    intro k
    rw [show k + (m + 1) = (k + 1) + m by omega, ih (k + 1)]
    simp [labTo, labFrom]

theorem sepB_cases (k : Nat) : sepB k = [227, 128, 129] ∨ sepB k = [229, 146, 140] ∨ sepB k = [229, 143, 138] ∨ sepB k = [228, 184, 142] ∨ sepB k = [47] := by
  unfold sepB sepS
  split
  · exact .inl rfl
  · split
    · exact .inr (.inl rfl)
    · split
      · exact .inr (.inr (.inl rfl))
      · split
        · exact .inr (.inr (.inr (.inl rfl)))
        · exact .inr (.inr (.inr (.inr rfl)))

theorem sepB_len (k : Nat) : (sepB k).length ≤ 3 := by
  rcases sepB_cases k with h | h | h | h | h <;> rw [h] <;> simp
theorem item_len (lt : ByteArray) (k : Nat) : (itemB lt k).length ≤ 19 := by
  have h1 := sepB_len k
  unfold itemB sepO tailB
  split <;> split <;> (try split) <;> simp [lei, jj, fe] <;> omega
theorem lab_len (lt : ByteArray) (k : Nat) : (labTo lt k).length ≤ 19 * k := by
  induction k with
  | zero => simp [labTo]
  | succ k ih =>
    have := item_len lt k
    rw [labTo, List.length_append]; omega

def stP (p : Nat) (lt : ByteArray) (k : Nat) : Nat := p + (labTo lt k).length + (sepO k).length
def enP (p : Nat) (lt : ByteArray) (k : Nat) : Nat := p + (labTo lt (k + 1)).length

theorem en_st (p : Nat) (lt : ByteArray) (k : Nat) : enP p lt k = stP p lt k + 4 + (tailB lt.size k).length := by
  unfold enP stP
  rw [labTo, List.length_append, itemB, List.length_append, List.length_cons, List.length_append]
  have : lei.length = 3 := rfl
  omega

/-- What follows item k. -/
def restP (lt : ByteArray) (Z : List UInt8) (k : Nat) : List UInt8 := labFrom lt (k + 1) (lt.size - k - 1) ++ Z

theorem text_at (A Z : List UInt8) (lt : ByteArray) (k : Nat) (hk : k < lt.size) :
    (A ++ (labTo lt lt.size ++ Z)).drop (stP A.length lt k) = letU lt k :: (lei ++ (tailB lt.size k ++ restP lt Z k)) := by
  have e : labTo lt lt.size = labTo lt k ++ (itemB lt k ++ labFrom lt (k + 1) (lt.size - k - 1)) := by
    have := lab_split lt (lt.size - k) k
    rw [show k + (lt.size - k) = lt.size by omega] at this
    rw [this, show lt.size - k = (lt.size - k - 1) + 1 by omega, labFrom, show lt.size - k - 1 + 1 - 1 = lt.size - k - 1 by omega]
  rw [e, itemB]
  have e2 : A ++ (labTo lt k ++ (sepO k ++ letU lt k :: (lei ++ tailB lt.size k) ++ labFrom lt (k + 1) (lt.size - k - 1)) ++ Z) = (A ++ labTo lt k ++ sepO k) ++ (letU lt k :: (lei ++ (tailB lt.size k ++ restP lt Z k))) := by
    unfold restP; simp [List.append_assoc]
  rw [e2]
  have e3 : stP A.length lt k = (A ++ labTo lt k ++ sepO k).length := by unfold stP; simp; omega
  rw [e3, List.drop_left]

theorem rest_sep (lt : ByteArray) (Z : List UInt8) (k : Nat) (hk : k + 1 < lt.size) : ∃ R, restP lt Z k = sepB (k + 1) ++ R := by
  unfold restP
  rw [show lt.size - k - 1 = (lt.size - k - 2) + 1 by omega, labFrom, itemB]
  have e : sepO (k + 1) = sepB (k + 1) := by unfold sepO; rw [if_neg (by omega)]
  rw [e, List.append_assoc, List.append_assoc]
  exact ⟨_, rfl⟩
theorem rest_end (lt : ByteArray) (Z : List UInt8) (k : Nat) (hk : k + 1 = lt.size) : restP lt Z k = Z := by
  unfold restP
  rw [show lt.size - k - 1 = 0 by omega, labFrom]; rfl

theorem bl_JJ : bl JJ = jj := rfl
theorem bl_FE : bl FE = fe := rfl
theorem bl_LEI : bl LEI = lei := rfl
theorem bl_S0 : bl S0 = [227, 128, 129] := rfl
theorem bl_S1 : bl S1 = [229, 146, 140] := rfl
theorem bl_S2 : bl S2 = [229, 143, 138] := rfl
theorem bl_S3 : bl S3 = [228, 184, 142] := rfl
theorem bl_S4 : bl S4 = [47] := rfl

/-- The word behind an item. -/
theorem word_tail (x : ByteArray) (lt : ByteArray) (Z : List UInt8) (k : Nat) (hk : k < lt.size) (hx : bl x = tailB lt.size k ++ restP lt Z k) :
    (wordF x [JJ, FE]).getD 0 = (tailB lt.size k).length := by
  simp only [wordF, hp_hpl, bl_JJ, bl_FE, hx]
  by_cases h1 : k + 1 = lt.size
  · have e : tailB lt.size k = jj := by unfold tailB; rw [if_pos h1]
    rw [e, hpl_app]; rfl
  · by_cases h2 : k % 2 = 1
    · have e : tailB lt.size k = fe := by unfold tailB; rw [if_neg h1, if_pos h2]
      rw [e, hpl_app]
      have : hpl (fe ++ restP lt Z k) jj = false := rfl
      rw [this]; rfl
    · have e : tailB lt.size k = [] := by unfold tailB; rw [if_neg h1, if_neg h2]
      obtain ⟨R, hR⟩ := rest_sep lt Z k (by omega)
      rw [e, hR]
      rcases sepB_cases (k + 1) with h | h | h | h | h <;> simp [h, hpl, jj, fe]

/-- The separator behind an item. -/
theorem word_sep (x : ByteArray) (k : Nat) (R : List UInt8) (hx : bl x = sepB k ++ R) : wordF x SEPS = some (sepB k).length := by
  simp only [SEPS, wordF, hp_hpl, bl_S0, bl_S1, bl_S2, bl_S3, bl_S4, hx]
  rcases sepB_cases k with h | h | h | h | h <;> simp [h, hpl] <;> rfl

theorem word_none (x z : ByteArray) (hx : bl x = bl z) (hz : anySep z = false) : wordF x SEPS = none := by
  unfold anySep at hz
  simp only [Bool.or_eq_false_iff] at hz
  obtain ⟨⟨⟨⟨h0, h1⟩, h2⟩, h3⟩, h4⟩ := hz
  rw [hp_hpl] at h0 h1 h2 h3 h4
  simp only [SEPS, wordF, hp_hpl, hx, h0, h1, h2, h3, h4]
  rfl

theorem bl_to_end (S : ByteArray) (a : Nat) : bl (S.extract a S.size) = (bl S).drop a := Lib.extract_to_end S a

/-- The text bears the label. -/
theorem written (S pre lt suf : ByteArray) (hS : bl S = bl pre ++ (labTo lt lt.size ++ bl suf)) (h0 : 0 < lt.size) (hup : ∀ k (h : k < lt.size), 65 ≤ lt[k].toNat ∧ lt[k].toNat ≤ 90) (hsuf : anySep suf = false) :
    Lab S lt.size (stP pre.size lt) (enP pre.size lt) (letU lt) := by
  have hsz : S.size = pre.size + (labTo lt lt.size).length + suf.size := by
    have := congrArg List.length hS
    rw [bl_length, List.length_append, List.length_append, bl_length, bl_length] at this
    omega
  have hat : ∀ k, k < lt.size → (bl S).drop (stP pre.size lt k) = letU lt k :: (lei ++ (tailB lt.size k ++ restP lt (bl suf) k)) := by
    intro k hk
    have := text_at (bl pre) (bl suf) lt k hk
    rw [bl_length] at this
    rw [hS]; exact this
  have hat4 : ∀ k, k < lt.size → (bl S).drop (stP pre.size lt k + 4) = tailB lt.size k ++ restP lt (bl suf) k := by
    intro k hk
    rw [← List.drop_drop, hat k hk]; rfl
  have haten : ∀ k, k < lt.size → (bl S).drop (enP pre.size lt k) = restP lt (bl suf) k := by
    intro k hk
    rw [en_st, ← List.drop_drop, hat4 k hk, List.drop_left]
  have hle : ∀ k, k < lt.size → enP pre.size lt k ≤ S.size := by
    intro k hk
    unfold enP
    have h1 := lab_split lt (lt.size - (k + 1)) (k + 1)
    rw [show k + 1 + (lt.size - (k + 1)) = lt.size by omega] at h1
    have h2 := congrArg List.length h1
    rw [List.length_append] at h2
    omega
  refine ⟨?_, ?_, ?_, ?_, ?_, ?_, ?_⟩
  · intro k hk
    exact ⟨by rw [en_st]; omega, hle k hk⟩
  · intro k hk
    have e : letU lt k = lt[k] := by
      unfold letU
      rw [List.getD, bl_get lt k hk]; rfl
    rw [e]; exact hup k hk
  · intro k hk h
    have h1 := hat k hk
    have h2 := bl_get S (stP pre.size lt k) h
    have h3 : (bl S)[stP pre.size lt k]? = ((bl S).drop (stP pre.size lt k))[0]? := by rw [List.getElem?_drop]; rfl
    rw [h3, h1] at h2
    exact (Option.some.inj h2).symm
  · intro k hk
    rw [hp_hpl, bl_to_end, ← List.drop_drop, hat k hk, bl_LEI]
    exact hpl_app _ _
  · intro k hk
    rw [word_tail _ lt (bl suf) k hk (by rw [bl_to_end]; exact hat4 k hk), ← en_st]
  · intro k hk
    obtain ⟨R, hR⟩ := rest_sep lt (bl suf) k hk
    have e : stP pre.size lt (k + 1) = enP pre.size lt k + (sepB (k + 1)).length := by
      unfold stP enP sepO; rw [if_neg (by omega)]
    refine ⟨?_, by omega⟩
    rw [word_sep _ (k + 1) R (by rw [bl_to_end, haten k (by omega)]; exact hR), e]
    congr 1; omega
  · refine word_none _ suf ?_ hsuf
    rw [bl_to_end, haten (lt.size - 1) (by omega), rest_end _ _ _ (by omega)]

end Go.Proofs.Qxb6604042aMods
