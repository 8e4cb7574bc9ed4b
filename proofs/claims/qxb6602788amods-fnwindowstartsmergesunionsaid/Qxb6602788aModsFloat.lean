/-
  PLAIN: what a double is, as far as these laws ask: an order by a whole number ('key'), a value in units of the least place ('uv' of the rung), rounding that is monotone and exact on small whole numbers. No Go in sight.
-/
import Ieee.Arith
import Derived.Laws.FloatBits
namespace Go.Proofs.Qxb6602788aMods.Fl
open Ieee

def bin : Nat := 4503599627370496
def inf : Nat := 2047 * 4503599627370496
def sw : Nat := 9223372036854775808
theorem bin_eq : bin = 2 ^ 52 := rfl
theorem bin_pos : 0 < bin := by unfold bin; omega

/-! ### Rungs and units -/
def uv (r : Nat) : Nat := if r < bin then r else (bin + r % bin) * 2 ^ (r / bin - 1)

theorem uv_at (t L : Nat) (h : bin ≤ L ∨ t = 0) (h2 : L ≤ 2 * bin) : uv (t * bin + L) = L * 2 ^ t := by
  have hb := bin_pos
  by_cases hL : L < bin
  · rcases h with h | h
    · omega
    · subst h; simp [uv, hL]
  · by_cases h3 : L = 2 * bin
    · subst h3
      have e : t * bin + 2 * bin = (t + 2) * bin := by rw [Nat.add_mul]
      rw [e]
      unfold uv
      rw [if_neg (by have : 1 * bin ≤ (t + 2) * bin := Nat.mul_le_mul_right _ (by omega); omega), Nat.mul_mod_left, Nat.mul_div_cancel _ hb]
      have : t + 2 - 1 = t + 1 := by omega
      rw [this, Nat.pow_succ, Nat.add_zero, Nat.mul_comm 2 bin, Nat.mul_assoc, Nat.mul_comm 2]
    · obtain ⟨f, rfl⟩ : ∃ f, L = bin + f := ⟨L - bin, by omega⟩
      have hf : f < bin := by omega
      have e : t * bin + (bin + f) = f + (t + 1) * bin := by rw [Nat.add_mul]; omega
      rw [e]
      unfold uv
      rw [if_neg (by have : 1 * bin ≤ (t + 1) * bin := Nat.mul_le_mul_right _ (by omega); omega), Nat.add_mul_mod_self_right, Nat.mod_eq_of_lt hf, Nat.add_mul_div_right _ _ hb, Nat.div_eq_of_lt hf]
      have : 0 + (t + 1) - 1 = t := by omega
      rw [this]

theorem uv_rep (r : Nat) : ∃ t L, r = t * bin + L ∧ (bin ≤ L ∨ t = 0) ∧ L < 2 * bin := by
  have hb := bin_pos
  have h1 := Nat.div_add_mod r bin
  have h2 := Nat.mod_lt r hb
  by_cases h : r / bin = 0
  · refine ⟨0, r % bin, ?_, .inr rfl, by omega⟩
    rw [h] at h1; omega
  · obtain ⟨q, hq⟩ := Nat.exists_eq_succ_of_ne_zero h
    refine ⟨q, bin + r % bin, ?_, .inl (by omega), by omega⟩
    rw [hq, Nat.mul_succ, Nat.mul_comm bin q] at h1; omega

theorem uv_succ (r : Nat) : uv r < uv (r + 1) := by
  obtain ⟨t, L, rfl, h1, h2⟩ := uv_rep r
  rw [Nat.add_assoc, uv_at t L h1 (by omega), uv_at t (L + 1) (by omega) (by omega)]
  exact (Nat.mul_lt_mul_right (Nat.two_pow_pos t)).2 (by omega)

theorem uv_lt {r r' : Nat} (h : r < r') : uv r < uv r' := by
  induction r' with
  | zero => omega
  | succ n ih =>
    by_cases e : r = n
    · subst e; exact uv_succ _
    · exact Nat.lt_trans (ih (by omega)) (uv_succ n)

theorem uv_lt_iff {r r' : Nat} : uv r < uv r' ↔ r < r' := by
  constructor
  · intro h
    by_cases hlt : r < r'
    · exact hlt
    · exfalso
      by_cases e : r = r'
      · subst e; omega
      · have := uv_lt (show r' < r by omega); omega
  · exact uv_lt

theorem uv_le_iff {r r' : Nat} : uv r ≤ uv r' ↔ r ≤ r' := by
  have := @uv_lt_iff r' r; omega

theorem uv_inj {r r' : Nat} (h : uv r = uv r') : r = r' := by
  have h1 := @uv_lt_iff r' r; have h2 := @uv_lt_iff r r'; omega

theorem uv_zero : uv 0 = 0 := by simp [uv, bin]

/-! ### Rounding a whole number of units -/
def tt (N : Nat) : Nat := N.log2 - 52
def fr (N : Nat) : Nat := tt N * bin + N / 2 ^ tt N
def more (N : Nat) : Bool := decide (2 ^ tt N < 2 * (N % 2 ^ tt N)) || (2 ^ tt N == 2 * (N % 2 ^ tt N) && N / 2 ^ tt N % 2 == 1)
def rd (N : Nat) : Nat := fr N + (more N).toNat

theorem fr_bounds (N : Nat) : (bin ≤ N / 2 ^ tt N ∨ tt N = 0) ∧ N / 2 ^ tt N < 2 * bin := by
  by_cases h0 : N = 0
  · subst h0; exact ⟨.inr rfl, by rw [Nat.zero_div]; have := bin_pos; omega⟩
  · have h1 := Nat.log2_self_le h0
    have h2 := @Nat.lt_log2_self N
    refine ⟨?_, ?_⟩
    · by_cases ht : tt N = 0
      · exact .inr ht
      · left
        rw [Nat.le_div_iff_mul_le (Nat.two_pow_pos _), bin_eq, ← Nat.pow_add]
        have : 52 + tt N = N.log2 := by unfold tt at *; omega
        rw [this]; exact h1
    · rw [Nat.div_lt_iff_lt_mul (Nat.two_pow_pos _)]
      have e : 2 * bin = 2 ^ 53 := rfl
      rw [e, ← Nat.pow_add]
      exact Nat.lt_of_lt_of_le h2 (Nat.pow_le_pow_right (by omega) (by unfold tt; omega))

theorem uv_fr (N : Nat) : uv (fr N) = N / 2 ^ tt N * 2 ^ tt N := by
  obtain ⟨h1, h2⟩ := fr_bounds N
  exact uv_at _ _ h1 (by omega)

theorem uv_fr_le (N : Nat) : uv (fr N) ≤ N := by rw [uv_fr]; exact Nat.div_mul_le_self _ _

theorem lt_uv_fr (N : Nat) : N < uv (fr N + 1) := by
  obtain ⟨h1, h2⟩ := fr_bounds N
  have e : fr N + 1 = tt N * bin + (N / 2 ^ tt N + 1) := by unfold fr; omega
  rw [e, uv_at _ _ (by omega) (by omega)]
  have h3 := Nat.div_add_mod N (2 ^ tt N)
  have h4 := Nat.mod_lt N (Nat.two_pow_pos (tt N))
  rw [Nat.add_mul, Nat.mul_comm (N / _)]; omega

theorem le_rd {r N : Nat} (h : uv r ≤ N) : r ≤ rd N := by
  have h1 := lt_uv_fr N
  have := (@uv_lt_iff r (fr N + 1)).1 (by omega)
  unfold rd; omega

theorem rd_exact {N : Nat} (h : N % 2 ^ tt N = 0) : rd N = fr N ∧ uv (rd N) = N := by
  have hm : more N = false := by
    unfold more; rw [h]; have := Nat.two_pow_pos (tt N)
    simp
  have e : rd N = fr N := by unfold rd; rw [hm, Bool.toNat_false, Nat.add_zero]
  refine ⟨e, ?_⟩
  rw [e, uv_fr]
  have := Nat.div_add_mod N (2 ^ tt N)
  rw [Nat.mul_comm]; omega

theorem rd_uv (r : Nat) : rd (uv r) = r := by
  have h1 := uv_fr_le (uv r)
  have h2 := lt_uv_fr (uv r)
  have a1 := uv_le_iff.1 h1
  have a2 := uv_lt_iff.1 h2
  have e : fr (uv r) = r := by omega
  have h3 := uv_fr (uv r)
  rw [e] at h3
  have h4 : uv r % 2 ^ tt (uv r) = 0 := by
    have := Nat.div_add_mod (uv r) (2 ^ tt (uv r))
    rw [Nat.mul_comm] at this; omega
  rw [(rd_exact h4).1, e]

theorem rd_zero : rd 0 = 0 := by
  have := rd_uv 0
  rw [uv_zero] at this
  exact this

/-! ### 'nearest' is that rounding -/
theorem D_least : double.leastPlace = -1074 := by decide +kernel
theorem D_bin : double.binade = bin := by decide +kernel
theorem D_inf : double.infRung = inf := by decide +kernel
theorem D_sw : double.signWeight = sw := by decide +kernel

theorem cut_even (neg : Bool) (n d : Nat) (h : d ≤ n.log2 + 2) : Toward.even.cut neg n d = n / 2 ^ d + (decide (2 ^ d < 2 * (n % 2 ^ d)) || (2 ^ d == 2 * (n % 2 ^ d) && n / 2 ^ d % 2 == 1)).toNat := by
  unfold Toward.cut
  simp only [Nat.one_shiftLeft]
  rw [Nat.min_eq_left h]

theorem nearest_least (neg : Bool) (N : Nat) : double.nearest neg N (-1074) = double.word neg (min (rd N) inf) := by
  unfold Format.nearest
  by_cases h0 : N = 0
  · subst h0; rw [if_pos rfl, rd_zero]; simp
  · rw [if_neg h0]
    simp only [D_least, D_bin, D_inf]
    have hl : (max ((-1074 : Int) + (N.log2 : Int) - (double.fractionBits : Int)) (-1074)) = -1074 + (tt N : Int) := by
      have : (double.fractionBits : Int) = 52 := rfl
      rw [this]; unfold tt; omega
    rw [hl]
    have e1 : ((-1074 : Int) - (-1074 + (tt N : Int))).toNat = 0 := by omega
    have e2 : ((-1074 : Int) + (tt N : Int) - (-1074)).toNat = tt N := by omega
    rw [e1, e2, Nat.shiftLeft_zero, cut_even _ _ _ (by unfold tt; omega)]
    rw [← Nat.add_assoc]
    rfl

theorem log2_mul_pow {m : Nat} (h : m ≠ 0) (k : Nat) : (m * 2 ^ k).log2 = m.log2 + k := by
  have hp := Nat.two_pow_pos k
  rw [Nat.log2_eq_iff (Nat.mul_ne_zero h (by omega))]
  refine ⟨?_, ?_⟩
  · rw [Nat.pow_add]; exact Nat.mul_le_mul_right _ (Nat.log2_self_le h)
  · rw [show m.log2 + k + 1 = (m.log2 + 1) + k by omega, Nat.pow_add]
    exact (Nat.mul_lt_mul_right hp).2 Nat.lt_log2_self

theorem cut_scale (neg : Bool) (m k d : Nat) (h0 : m ≠ 0) : Toward.even.cut neg (m * 2 ^ k) (d + k) = Toward.even.cut neg m d := by
  have hp := Nat.two_pow_pos k
  unfold Toward.cut
  simp only [Nat.one_shiftLeft, log2_mul_pow h0]
  have e : min (d + k) (m.log2 + k + 2) = min d (m.log2 + 2) + k := by omega
  rw [e]
  generalize min d (m.log2 + 2) = g
  rw [Nat.pow_add, Nat.mul_div_mul_right _ _ hp, Nat.mul_mod_mul_right]
  have c1 : (2 ^ g * 2 ^ k < 2 * (m % 2 ^ g * 2 ^ k)) ↔ 2 ^ g < 2 * (m % 2 ^ g) := by
    rw [← Nat.mul_assoc]; exact Nat.mul_lt_mul_right hp
  have c2 : (2 ^ g * 2 ^ k = 2 * (m % 2 ^ g * 2 ^ k)) ↔ 2 ^ g = 2 * (m % 2 ^ g) := by
    rw [← Nat.mul_assoc]; exact ⟨fun h => Nat.eq_of_mul_eq_mul_right hp h, fun h => congrArg (· * 2 ^ k) h⟩
  congr 2
  rw [Bool.eq_iff_iff]
  simp only [Bool.or_eq_true, decide_eq_true_eq, Bool.and_eq_true, beq_iff_eq, c1, c2]

theorem cut_zero (neg : Bool) (m : Nat) : Toward.even.cut neg m 0 = m := by
  rw [cut_even _ _ _ (by omega)]
  simp [Nat.mod_one]

theorem cut_exact (neg : Bool) (m k d : Nat) (h0 : m ≠ 0) (hd : d ≤ k) : Toward.even.cut neg (m * 2 ^ k) d = m * 2 ^ (k - d) := by
  have e : m * 2 ^ k = m * 2 ^ (k - d) * 2 ^ d := by rw [Nat.mul_assoc, ← Nat.pow_add]; congr 2; omega
  have h := cut_scale neg (m * 2 ^ (k - d)) d 0 (Nat.mul_ne_zero h0 (by have := Nat.two_pow_pos (k - d); omega))
  rw [Nat.zero_add, cut_zero] at h
  rw [e, h]

theorem nearest_scale (neg : Bool) (m k : Nat) : double.nearest neg m (-1074 + (k : Int)) = double.nearest neg (m * 2 ^ k) (-1074) := by
  by_cases h0 : m = 0
  · subst h0; simp [Format.nearest]
  · have hp := Nat.two_pow_pos k
    have h1 : m * 2 ^ k ≠ 0 := Nat.mul_ne_zero h0 (by omega)
    unfold Format.nearest
    rw [if_neg h0, if_neg h1]
    simp only [D_least, log2_mul_pow h0]
    have hf : (double.fractionBits : Int) = 52 := rfl
    rw [hf]
    have hl : max ((-1074 : Int) + (k : Int) + (m.log2 : Int) - 52) (-1074) = -1074 + ((m.log2 + k - 52 : Nat) : Int) := by omega
    have hl' : max ((-1074 : Int) + ((m.log2 + k : Nat) : Int) - 52) (-1074) = -1074 + ((m.log2 + k - 52 : Nat) : Int) := by omega
    rw [hl, hl']
    generalize m.log2 + k - 52 = t
    have e1 : ((-1074 : Int) - (-1074 + (t : Int))).toNat = 0 := by omega
    have e2 : ((-1074 : Int) + (t : Int) - (-1074)).toNat = t := by omega
    rw [e1, e2, Nat.shiftLeft_zero]
    by_cases hk : t ≤ k
    · have e3 : ((-1074 : Int) + (t : Int) - (-1074 + (k : Int))).toNat = 0 := by omega
      have e4 : ((-1074 : Int) + (k : Int) - (-1074 + (t : Int))).toNat = k - t := by omega
      rw [e3, e4, cut_zero, cut_exact _ _ _ _ h0 hk, Nat.shiftLeft_eq]
    · have e3 : ((-1074 : Int) + (t : Int) - (-1074 + (k : Int))).toNat = t - k := by omega
      have e4 : ((-1074 : Int) + (k : Int) - (-1074 + (t : Int))).toNat = 0 := by omega
      rw [e3, e4, Nat.shiftLeft_zero]
      have := cut_scale neg m k (t - k) h0
      rw [show t - k + k = t by omega] at this
      rw [this]

/-! ### Words: sign, rung, key -/
def ng (x : Nat) : Bool := x / sw % 2 == 1
def rg (x : Nat) : Nat := x % sw
/-- Not a NaN. -/
def Num (x : Nat) : Prop := rg x ≤ inf
/-- A finite number. -/
def Fin (x : Nat) : Prop := rg x < inf
def sg (b : Bool) (n : Nat) : Int := if b then -(n : Int) else n
/-- The place in the order of the numbers, the infinities among them. -/
def key (x : Nat) : Int := sg (ng x) (rg x)
/-- The value in units of the least place. -/
def S (x : Nat) : Int := sg (ng x) (uv (rg x))

theorem inf_lt_sw : inf < sw := by unfold inf sw; omega
theorem bin_lt_inf : bin < inf := by unfold inf bin; omega

theorem ng_word (b : Bool) (r : Nat) (h : r < sw) : ng (double.word b r) = b := by
  unfold ng Format.word
  rw [D_sw]
  have hs : 0 < sw := by unfold sw; omega
  cases b with
  | false => simp [Nat.div_eq_of_lt h]
  | true =>
    simp only [if_true]
    rw [Nat.add_div_left _ hs, Nat.div_eq_of_lt h]; rfl

theorem rg_word (b : Bool) (r : Nat) (h : r < sw) : rg (double.word b r) = r := by
  unfold rg Format.word
  rw [D_sw]
  cases b with
  | false => simp [Nat.mod_eq_of_lt h]
  | true => simp [Nat.mod_eq_of_lt h]

theorem key_word (b : Bool) (r : Nat) (h : r < sw) : key (double.word b r) = sg b r := by
  unfold key; rw [ng_word _ _ h, rg_word _ _ h]

theorem read_fin (x : Nat) (h : Fin x) : ∃ (m k : Nat), double.read x = .number (ng x) m (-1074 + (k : Int)) ∧ m * 2 ^ k = uv (rg x) := by
  unfold Format.read
  simp only [D_sw, D_bin, D_inf, D_least]
  have e1 : (x / sw % 2 == 1) = ng x := rfl
  have e2 : x % sw = rg x := rfl
  rw [e1, e2]
  unfold Fin at h
  by_cases h1 : rg x < bin
  · refine ⟨rg x, 0, ?_, ?_⟩
    · rw [if_pos h1]; simp
    · simp [uv, h1]
  · refine ⟨bin + rg x % bin, rg x / bin - 1, ?_, ?_⟩
    · rw [if_neg h1, if_pos h]
    · simp [uv, h1]

theorem read_inf (x : Nat) (h : rg x = inf) : double.read x = .infinity (ng x) := by
  unfold Format.read
  simp only [D_sw, D_bin, D_inf, D_least]
  have e1 : (x / sw % 2 == 1) = ng x := rfl
  have e2 : x % sw = rg x := rfl
  rw [e1, e2, if_neg (by have := bin_lt_inf; omega), if_neg (by omega), if_pos h]

theorem read_nan (x : Nat) (h : ¬ Num x) : ∃ s f, double.read x = .nan s f := by
  unfold Num at h
  unfold Format.read
  simp only [D_sw, D_bin, D_inf, D_least]
  have e1 : (x / sw % 2 == 1) = ng x := rfl
  have e2 : x % sw = rg x := rfl
  rw [e1, e2, if_neg (by have := bin_lt_inf; omega), if_neg (by omega), if_neg (by omega)]
  exact ⟨_, _, rfl⟩

theorem signed_eq (b : Bool) (m k : Nat) : signed b m k = sg b (m * 2 ^ k) := by
  unfold signed sg
  rw [Nat.shiftLeft_eq]

theorem sg_mul (b : Bool) (m k : Nat) : sg b (m * k) = sg b m * (k : Int) := by
  unfold sg
  cases b <;> simp [Int.neg_mul]
theorem sg_zero (b : Bool) : sg b 0 = 0 := by cases b <;> rfl
theorem sg_true (n : Nat) : sg true n = -(n : Int) := rfl
theorem sg_false (n : Nat) : sg false n = (n : Int) := rfl

/-! ### The order -/
theorem sg_lt (b c : Bool) (m n : Nat) : sg b (uv m) < sg c (uv n) ↔ sg b m < sg c n := by
  have h0 := uv_zero
  have h1 := @uv_lt_iff m n
  have h2 := @uv_lt_iff n m
  have h3 := @uv_lt_iff 0 m
  have h4 := @uv_lt_iff 0 n
  rw [h0] at h3 h4
  unfold sg
  cases b <;> cases c <;> simp <;> omega

theorem sg_eq (b c : Bool) (m n : Nat) : sg b (uv m) = sg c (uv n) ↔ sg b m = sg c n := by
  have h1 := sg_lt b c m n
  have h2 := sg_lt c b n m
  omega

theorem cmp_congr {a b c d : Int} (h1 : a < b ↔ c < d) (h2 : a = b ↔ c = d) : compare a b = compare c d := by
  show compareOfLessAndEq a b = compareOfLessAndEq c d
  unfold compareOfLessAndEq
  simp only [h1, h2]

theorem cmp_mul (a b : Int) (k : Nat) : compare a b = compare (a * (2 ^ k : Nat)) (b * (2 ^ k : Nat)) := by
  have hp : (0 : Int) < ((2 ^ k : Nat) : Int) := by have := Nat.two_pow_pos k; omega
  refine cmp_congr ?_ ?_
  · exact (Int.mul_lt_mul_right hp).symm
  · exact ⟨fun h => by rw [h], fun h => Int.eq_of_mul_eq_mul_right (by omega) h⟩

theorem order_num (x y : Nat) (hx : Num x) (hy : Num y) : double.order x y = some (compare (key x) (key y)) := by
  unfold Format.order
  unfold Num at hx hy
  by_cases fx : Fin x
  · obtain ⟨m, k, rx, ux⟩ := read_fin x fx
    by_cases fy : Fin y
    · obtain ⟨n, j, ry, uy⟩ := read_fin y fy
      rw [rx, ry]
      simp only [Datum.order, signed_eq]
      congr 1
      obtain ⟨q, hq⟩ : ∃ q : Nat, min (-1074 + (k : Int)) (-1074 + (j : Int)) = -1074 + (q : Int) ∧ q ≤ k ∧ q ≤ j := ⟨min k j, by omega, by omega, by omega⟩
      rw [hq.1]
      have a1 : (-1074 + (k : Int) - (-1074 + (q : Int))).toNat = k - q := by omega
      have a2 : (-1074 + (j : Int) - (-1074 + (q : Int))).toNat = j - q := by omega
      rw [a1, a2, cmp_mul _ _ q, ← sg_mul, ← sg_mul]
      have b1 : m * 2 ^ (k - q) * 2 ^ q = uv (rg x) := by rw [Nat.mul_assoc, ← Nat.pow_add, show k - q + q = k by omega, ux]
      have b2 : n * 2 ^ (j - q) * 2 ^ q = uv (rg y) := by rw [Nat.mul_assoc, ← Nat.pow_add, show j - q + q = j by omega, uy]
      rw [b1, b2]
      exact cmp_congr (sg_lt _ _ _ _) (sg_eq _ _ _ _)
    · have ey : rg y = inf := by unfold Fin at fy; omega
      rw [rx, read_inf y ey]
      simp only [Datum.order]
      congr 1
      unfold Fin at fx
      unfold key sg
      rw [ey]
      cases ng y
      · simp only [Bool.false_eq_true, if_false]
        symm; rw [Int.compare_eq_lt]; split <;> omega
      · simp only [if_true]
        symm; rw [Int.compare_eq_gt]; split <;> omega
  · have ex : rg x = inf := by unfold Fin at fx; omega
    by_cases fy : Fin y
    · obtain ⟨n, j, ry, uy⟩ := read_fin y fy
      rw [read_inf x ex, ry]
      simp only [Datum.order]
      congr 1
      unfold Fin at fy
      unfold key sg
      rw [ex]
      cases ng x
      · simp only [Bool.false_eq_true, if_false]
        symm; rw [Int.compare_eq_gt]; split <;> omega
      · simp only [if_true]
        symm; rw [Int.compare_eq_lt]; split <;> omega
    · have ey : rg y = inf := by unfold Fin at fy; omega
      rw [read_inf x ex, read_inf y ey]
      simp only [Datum.order]
      congr 1
      unfold key sg
      rw [ex, ey]
      have : (0 : Nat) < inf := by unfold inf; omega
      generalize inf = z at *
      cases ng x <;> cases ng y <;> simp
      · rw [Int.compare_eq_gt.2 (show -(z : Int) < z by omega)]; rfl
      · rw [Int.compare_eq_lt.2 (show -(z : Int) < z by omega)]; rfl

theorem order_nan_left (x y : Nat) (hx : ¬ Num x) : double.order x y = none := by
  obtain ⟨s, f, e⟩ := read_nan x hx
  unfold Format.order; rw [e]; rfl

theorem order_nan_right (x y : Nat) (hy : ¬ Num y) : double.order x y = none := by
  obtain ⟨s, f, e⟩ := read_nan y hy
  unfold Format.order; rw [e]
  cases double.read x <;> rfl

/-! ### The sum -/
theorem add_fin (x y : Nat) (hx : Fin x) (hy : Fin y) :
    double.add x y = some (double.word (if S x + S y = 0 then ng x && ng y else decide (S x + S y < 0)) (min (rd (S x + S y).natAbs) inf)) := by
  obtain ⟨m, k, rx, ux⟩ := read_fin x hx
  obtain ⟨n, j, ry, uy⟩ := read_fin y hy
  unfold Format.add
  rw [rx, ry]
  simp only [Datum.sum, signed_eq, Option.map_some]
  congr 1
  obtain ⟨q, hq⟩ : ∃ q : Nat, min (-1074 + (k : Int)) (-1074 + (j : Int)) = -1074 + (q : Int) ∧ q ≤ k ∧ q ≤ j := ⟨min k j, by omega, by omega, by omega⟩
  rw [hq.1]
  have a1 : (-1074 + (k : Int) - (-1074 + (q : Int))).toNat = k - q := by omega
  have a2 : (-1074 + (j : Int) - (-1074 + (q : Int))).toNat = j - q := by omega
  rw [a1, a2]
  have b1 : m * 2 ^ (k - q) * 2 ^ q = uv (rg x) := by rw [Nat.mul_assoc, ← Nat.pow_add, show k - q + q = k by omega, ux]
  have b2 : n * 2 ^ (j - q) * 2 ^ q = uv (rg y) := by rw [Nat.mul_assoc, ← Nat.pow_add, show j - q + q = j by omega, uy]
  have c1 : S x = sg (ng x) (m * 2 ^ (k - q)) * ((2 ^ q : Nat) : Int) := by unfold S; rw [← sg_mul, b1]
  have c2 : S y = sg (ng y) (n * 2 ^ (j - q)) * ((2 ^ q : Nat) : Int) := by unfold S; rw [← sg_mul, b2]
  have c3 : S x + S y = (sg (ng x) (m * 2 ^ (k - q)) + sg (ng y) (n * 2 ^ (j - q))) * ((2 ^ q : Nat) : Int) := by rw [c1, c2, Int.add_mul]
  have hp := Nat.two_pow_pos q
  generalize sg (ng x) (m * 2 ^ (k - q)) + sg (ng y) (n * 2 ^ (j - q)) = T at *
  have d1 : (S x + S y = 0) ↔ T = 0 := by
    rw [c3, Int.mul_eq_zero]
    exact ⟨fun h => h.resolve_right (by omega), .inl⟩
  have d2 : (S x + S y < 0) ↔ T < 0 := by
    rw [c3]
    have hq0 : (0 : Int) < ((2 ^ q : Nat) : Int) := by omega
    constructor
    · intro h
      by_cases ht : T < 0
      · exact ht
      · have := Int.mul_nonneg (show 0 ≤ T by omega) (Int.le_of_lt hq0); omega
    · intro h; exact Int.mul_neg_of_neg_of_pos h hq0
  have d3 : (S x + S y).natAbs = T.natAbs * 2 ^ q := by rw [c3, Int.natAbs_mul, Int.natAbs_natCast]
  simp only [Format.write]
  rw [nearest_scale, nearest_least, ← d3]
  simp only [d1, d2]

theorem S_word (b : Bool) (r : Nat) (h : r < sw) : S (double.word b r) = sg b (uv r) := by
  unfold S; rw [ng_word _ _ h, rg_word _ _ h]

theorem min_lt_sw (r : Nat) : min r inf < sw := by have := inf_lt_sw; omega

/-! ### No value negative: the sum is at least each -/
theorem key_nonneg_fin {x : Nat} (h : 0 ≤ key x) : S x = (uv (rg x) : Nat) ∧ key x = (rg x : Nat) := by
  unfold S
  have hz : uv 0 = 0 := uv_zero
  unfold key sg at *
  cases hn : ng x with
  | false => simp
  | true =>
    rw [hn] at h
    simp at h
    have : rg x = 0 := by omega
    simp [this, hz]

theorem key_le_inf {z : Nat} (hz : Num z) : key z ≤ (inf : Int) := by
  unfold Num at hz
  unfold key sg
  split <;> omega

theorem pinf : Num (double.word false inf) ∧ key (double.word false inf) = (inf : Int) := by
  have hiw := inf_lt_sw
  refine ⟨?_, ?_⟩
  · unfold Num; rw [rg_word _ _ hiw]; exact Nat.le_refl _
  · rw [key_word _ _ hiw, sg_false]

theorem nonneg_inf {y : Nat} (ky : 0 ≤ key y) (ey : rg y = inf) : ng y = false := by
  have hpos : (0 : Nat) < inf := by unfold inf; omega
  cases h : ng y with
  | false => rfl
  | true =>
    exfalso
    unfold key at ky
    rw [h, ey, sg_true] at ky
    omega

theorem add_nonneg_fin (x y : Nat) (fx : Fin x) (fy : Fin y) (kx : 0 ≤ key x) (ky : 0 ≤ key y) :
    ∃ r, double.add x y = some r ∧ Num r ∧ key x ≤ key r ∧ key y ≤ key r := by
  refine ⟨_, add_fin x y fx fy, ?_, ?_⟩
  · unfold Num; rw [rg_word _ _ (min_lt_sw _)]; exact Nat.min_le_right _ _
  · obtain ⟨sx, ex⟩ := key_nonneg_fin kx
    obtain ⟨sy, ey⟩ := key_nonneg_fin ky
    rw [key_word _ _ (min_lt_sw _), ex, ey, sx, sy]
    have h1 := le_rd (r := rg x) (N := ((uv (rg x) : Int) + (uv (rg y) : Int)).natAbs) (by omega)
    have h2 := le_rd (r := rg y) (N := ((uv (rg x) : Int) + (uv (rg y) : Int)).natAbs) (by omega)
    unfold Fin at fx fy
    by_cases h0 : (uv (rg x) : Int) + (uv (rg y) : Int) = 0
    · have g1 : uv (rg x) = uv 0 := by rw [uv_zero]; omega
      have g2 : uv (rg y) = uv 0 := by rw [uv_zero]; omega
      have e1 := uv_inj g1
      have e2 := uv_inj g2
      have e3 : (((uv (rg x) : Nat) : Int) + (uv (rg y) : Int)).natAbs = 0 := by omega
      have e4 : sg (if ((uv (rg x) : Nat) : Int) + (uv (rg y) : Int) = 0 then ng x && ng y else decide (((uv (rg x) : Nat) : Int) + (uv (rg y) : Int) < 0)) (min (rd (((uv (rg x) : Nat) : Int) + (uv (rg y) : Int)).natAbs) inf) = 0 := by
        rw [e3, rd_zero, Nat.zero_min, sg_zero]
      rw [e4, e1, e2]
      exact ⟨Int.le_refl _, Int.le_refl _⟩
    · rw [if_neg h0]
      have : decide ((uv (rg x) : Int) + (uv (rg y) : Int) < 0) = false := by simp; omega
      rw [this, sg_false]
      generalize rd _ = R at *
      generalize inf = I at *
      omega

theorem add_nonneg (x y : Nat) (hx : Num x) (hy : Num y) (kx : 0 ≤ key x) (ky : 0 ≤ key y) :
    ∃ r, double.add x y = some r ∧ Num r ∧ key x ≤ key r ∧ key y ≤ key r := by
  obtain ⟨p1, p2⟩ := pinf
  by_cases fx : Fin x
  · by_cases fy : Fin y
    · exact add_nonneg_fin x y fx fy kx ky
    · have ey : rg y = inf := by unfold Fin at fy; unfold Num at hy; omega
      have nyf := nonneg_inf ky ey
      obtain ⟨m, k, rx, ux⟩ := read_fin x fx
      refine ⟨double.word false inf, ?_, p1, ?_, ?_⟩
      · unfold Format.add; rw [rx, read_inf y ey, nyf]; simp only [Datum.sum, Option.map_some, Format.write, D_inf]
      · rw [p2]; exact key_le_inf hx
      · rw [p2]; exact key_le_inf hy
  · have ex : rg x = inf := by unfold Fin at fx; unfold Num at hx; omega
    have nxf := nonneg_inf kx ex
    refine ⟨double.word false inf, ?_, p1, ?_, ?_⟩
    · by_cases fy : Fin y
      · obtain ⟨m, k, ry, uy⟩ := read_fin y fy
        unfold Format.add; rw [ry, read_inf x ex, nxf]; simp only [Datum.sum, Option.map_some, Format.write, D_inf]
      · have ey : rg y = inf := by unfold Fin at fy; unfold Num at hy; omega
        have nyf := nonneg_inf ky ey
        unfold Format.add; rw [read_inf x ex, read_inf y ey, nxf, nyf]; simp only [Datum.sum, if_true, Option.map_some, Format.write, D_inf]
    · rw [p2]; exact key_le_inf hx
    · rw [p2]; exact key_le_inf hy

/-! ### Small whole numbers -/
/-- One, in units. -/
def lp : Nat := 1074
theorem lp_eq : lp = 1074 := rfl
def one : Nat := 2 ^ lp
theorem one_pos : 0 < one := Nat.two_pow_pos _

/-- x is the whole number n. -/
def IsInt (x : Nat) (n : Int) : Prop := Fin x ∧ S x = n * (one : Int)

theorem tt_int (n : Nat) (h0 : n ≠ 0) (h : n < 2 * bin) : tt (n * one) ≤ lp := by
  unfold tt one
  rw [log2_mul_pow h0]
  have : n.log2 < 53 := (Nat.log2_lt h0).2 h
  omega

theorem rd_int (n : Nat) (h : n < 2 * bin) : uv (rd (n * one)) = n * one ∧ rd (n * one) < inf := by
  by_cases h0 : n = 0
  · subst h0; rw [Nat.zero_mul, rd_zero, uv_zero]; exact ⟨rfl, by unfold inf; omega⟩
  · have ht := tt_int n h0 h
    have hd : (n * one) % 2 ^ tt (n * one) = 0 := by
      apply Nat.mod_eq_zero_of_dvd
      refine Nat.dvd_trans (Nat.pow_dvd_pow 2 ht) ?_
      unfold one
      exact Nat.dvd_mul_left _ _
    obtain ⟨e1, e2⟩ := rd_exact hd
    refine ⟨e2, ?_⟩
    rw [e1]
    obtain ⟨_, h2⟩ := fr_bounds (n * one)
    unfold fr
    have h3 : tt (n * one) * bin ≤ lp * bin := Nat.mul_le_mul_right _ ht
    generalize (n * one) / 2 ^ tt (n * one) = L at *
    generalize tt (n * one) = t at *
    clear e1 e2 hd
    rw [lp_eq] at h3
    have h4 : 1076 * bin < inf := by unfold bin inf; omega
    omega

theorem word_int (b : Bool) (n : Nat) (h : n < 2 * bin) : IsInt (double.word b (min (rd (n * one)) inf)) (sg b n) := by
  obtain ⟨h1, h2⟩ := rd_int n h
  have e : min (rd (n * one)) inf = rd (n * one) := Nat.min_eq_left (by omega)
  have hs : rd (n * one) < sw := Nat.lt_trans h2 inf_lt_sw
  rw [e]
  refine ⟨?_, ?_⟩
  · unfold Fin; rw [rg_word _ _ hs]; exact h2
  · rw [S_word _ _ hs, h1, sg_mul]

theorem add_int (x y : Nat) (a b : Int) (hx : IsInt x a) (hy : IsInt y b) (h : (a + b).natAbs < 2 * bin) :
    ∃ r, double.add x y = some r ∧ IsInt r (a + b) := by
  obtain ⟨fx, sx⟩ := hx
  obtain ⟨fy, sy⟩ := hy
  refine ⟨_, add_fin x y fx fy, ?_⟩
  have e : S x + S y = (a + b) * (one : Int) := by rw [sx, sy, Int.add_mul]
  have hp := one_pos
  have e0 : (S x + S y = 0) ↔ a + b = 0 := by
    rw [e, Int.mul_eq_zero]
    exact ⟨fun h => h.resolve_right (by omega), .inl⟩
  have e1 : (S x + S y < 0) ↔ a + b < 0 := by
    rw [e]
    have hq0 : (0 : Int) < (one : Int) := by omega
    constructor
    · intro h
      by_cases ht : a + b < 0
      · exact ht
      · have := Int.mul_nonneg (show 0 ≤ a + b by omega) (Int.le_of_lt hq0); omega
    · intro h; exact Int.mul_neg_of_neg_of_pos h hq0
  have e2 : (S x + S y).natAbs = (a + b).natAbs * one := by rw [e, Int.natAbs_mul, Int.natAbs_natCast]
  rw [e2]
  have hw := word_int (if S x + S y = 0 then ng x && ng y else decide (S x + S y < 0)) (a + b).natAbs h
  refine ⟨hw.1, ?_⟩
  rw [hw.2]
  congr 1
  by_cases z : a + b = 0
  · rw [z]; exact sg_zero _
  · rw [if_neg (fun c => z (e0.1 c))]
    unfold sg
    by_cases c : a + b < 0
    · rw [if_pos (by simpa using e1.2 c)]; omega
    · rw [if_neg (by simpa using fun d => c (e1.1 d))]; omega

theorem zero_int : IsInt 0 0 := by
  have h : rg 0 = 0 := Nat.zero_mod _
  refine ⟨?_, ?_⟩
  · unfold Fin; rw [h]; unfold inf; omega
  · unfold S; rw [h, uv_zero, Int.zero_mul]; exact sg_zero _

/-- float64(n). -/
theorem nearest_int (n : Int) (h : n.natAbs < 2 * bin) : IsInt (double.nearest (decide (n < 0)) n.natAbs 0) n := by
  have e : (0 : Int) = -1074 + (lp : Int) := by rw [lp_eq]; rfl
  rw [e, nearest_scale, nearest_least]
  have hw := word_int (decide (n < 0)) n.natAbs h
  have e2 : sg (decide (n < 0)) n.natAbs = n := by
    unfold sg
    by_cases c : n < 0
    · rw [if_pos (by simpa using c)]; omega
    · rw [if_neg (by simpa using c)]; omega
  rw [e2] at hw
  exact hw

theorem Fin.num {x : Nat} (h : Fin x) : Num x := Nat.le_of_lt h

theorem key_eq_of_S {x y : Nat} (h : S x = S y) : key x = key y := (sg_eq _ _ _ _).1 h
theorem S_eq_of_key {x y : Nat} (h : key x = key y) : S x = S y := (sg_eq _ _ _ _).2 h
theorem S_lt_iff {x y : Nat} : S x < S y ↔ key x < key y := sg_lt _ _ _ _

theorem isInt_eq (x y : Nat) (n : Int) (hx : IsInt x n) (hy : IsInt y n) : (double.order x y == some .eq) = true := by
  rw [order_num x y hx.1.num hy.1.num, key_eq_of_S (hx.2.trans hy.2.symm)]
  simp

/-- int64(x) of a finite number: cut towards zero. -/
theorem toInt_fin (x : Nat) (h : Fin x) : (double.read x).toInt .zero = some (sg (ng x) (uv (rg x) / one)) := by
  obtain ⟨m, k, rx, ux⟩ := read_fin x h
  rw [rx]
  simp only [Datum.toInt, Datum.integral, signed_eq]
  congr 2
  rw [Nat.pow_zero, Nat.mul_one, ← ux]
  unfold Toward.cut
  simp only [Nat.one_shiftLeft, Bool.toNat_false, Nat.add_zero]
  unfold one
  have hlp := lp_eq
  by_cases hk : lp ≤ k
  · have e1 : (-1074 + (k : Int)).toNat = k - lp := by omega
    have e2 : (-(-1074 + (k : Int))).toNat = 0 := by omega
    rw [e1, e2, Nat.zero_min, Nat.pow_zero, Nat.div_one, Nat.shiftLeft_eq]
    have : m * 2 ^ k = m * 2 ^ (k - lp) * 2 ^ lp := by rw [Nat.mul_assoc, ← Nat.pow_add, show k - lp + lp = k by omega]
    rw [this, Nat.mul_div_cancel _ (Nat.two_pow_pos lp)]
  · have e1 : (-1074 + (k : Int)).toNat = 0 := by omega
    have e2 : (-(-1074 + (k : Int))).toNat = lp - k := by omega
    rw [e1, e2, Nat.shiftLeft_zero]
    have e3 : (2 : Nat) ^ lp = 2 ^ (lp - k) * 2 ^ k := by rw [← Nat.pow_add, show lp - k + k = lp by omega]
    rw [e3, Nat.mul_div_mul_right _ _ (Nat.two_pow_pos k)]
    generalize lp - k = d
    by_cases hd : d ≤ m.log2 + 2
    · rw [Nat.min_eq_left hd]
    · rw [Nat.min_eq_right (by omega)]
      have h1 : m < 2 ^ (m.log2 + 2) := Nat.lt_of_lt_of_le Nat.lt_log2_self (Nat.pow_le_pow_right (by omega) (by omega))
      have h2 : m < 2 ^ d := Nat.lt_of_lt_of_le h1 (Nat.pow_le_pow_right (by omega) (by omega))
      rw [Nat.div_eq_of_lt h1, Nat.div_eq_of_lt h2]

end Go.Proofs.Qxb6602788aMods.Fl
