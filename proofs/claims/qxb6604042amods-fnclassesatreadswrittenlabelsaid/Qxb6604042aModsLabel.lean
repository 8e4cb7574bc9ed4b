/-
  rowLabel and the law's own scan: the plain functions and the walks.
-/
import Derived.Test.Qxb6604042aModsProg
import Derived.WalkKit
import Derived.WalkSpells
import Derived.WalkLawsBesides
namespace Go.Proofs.Qxb6604042aMods
open Go.RowKit

theorem hidden {p : Prop} (h : p) : Hid p := h

def byt (s : ByteArray) (p : Nat) : Nat := if h : p < s.size then s[p].toNat else 0
theorem byt_eq {s : ByteArray} {p : Nat} (h : p < s.size) : byt s p = s[p].toNat := dif_pos h
def delta (c : Nat) : Int := if c = 40 then 1 else if c = 41 then -1 else 0
def bal (s : ByteArray) (i : Nat) : Nat → Int
  | 0 => 0
  | d + 1 => bal s i d + delta (byt s (i + d))
def figB (c : Nat) : Bool := decide (48 ≤ c ∧ c ≤ 57) || c == 45
def stopAt (s : ByteArray) (i d : Nat) : Bool := figB (byt s (i + d)) && (bal s i d == 0)

theorem bal_le (s : ByteArray) (i d : Nat) : -(d : Int) ≤ bal s i d ∧ bal s i d ≤ d := by
  induction d with
  | zero => simp [bal]
  | succ d ih =>
    have : -1 ≤ delta (byt s (i + d)) ∧ delta (byt s (i + d)) ≤ 1 := by unfold delta; split <;> (try split) <;> omega
    rw [bal]; omega

/-- The balance one byte on. -/
theorem bal_next (s : ByteArray) (i j : Nat) (h : i ≤ j) (hj : j < s.size) : bal s i (j + 1 - i) = bal s i (j - i) + delta s[j].toNat := by
  have e : j + 1 - i = (j - i) + 1 := by omega
  rw [e, bal, show i + (j - i) = j by omega, byt_eq hj]

theorem stop_eq (s : ByteArray) (i j : Nat) (h : i ≤ j) (hj : j < s.size) : stopAt s i (j - i) = (figB s[j].toNat && (bal s i (j - i) == 0)) := by
  unfold stopAt; rw [show i + (j - i) = j by omega, byt_eq hj]

theorem figB_40 : figB 40 = false := by decide
theorem figB_41 : figB 41 = false := by decide

/-- The first stop lies d bytes on. -/
def First (s : ByteArray) (i d : Nat) : Prop := i + d < s.size ∧ d < 120 ∧ stopAt s i d = true ∧ ∀ k, k < d → stopAt s i k = false
def NoStop (s : ByteArray) (i : Nat) : Prop := ∀ k, k < 120 → i + k < s.size → stopAt s i k = false

theorem first_of (s : ByteArray) (i : Nat) : ∀ n, (∃ d, d < n ∧ First s i d) ∨ (∀ k, k < n → k < 120 → i + k < s.size → stopAt s i k = false) := by
  intro n
  induction n with
  | zero => exact .inr (fun k hk => absurd hk (Nat.not_lt_zero _))
  | succ n ih =>
    rcases ih with ⟨d, hd, hf⟩ | h
    · exact .inl ⟨d, by omega, hf⟩
    · by_cases hs : n < 120 ∧ i + n < s.size ∧ stopAt s i n = true
      · exact .inl ⟨n, by omega, hs.2.1, hs.1, hs.2.2, fun k hk => h k hk (by omega) (by omega)⟩
      · refine .inr (fun k hk h1 h2 => ?_)
        by_cases e : k = n
        · subst e
          cases hb : stopAt s i k with
          | false => rfl
          | true => exact absurd ⟨h1, h2, hb⟩ hs
        · exact h k (by omega) h1 h2

theorem first_or (s : ByteArray) (i : Nat) : (∃ d, First s i d) ∨ NoStop s i := by
  rcases first_of s i 120 with ⟨d, _, h⟩ | h
  · exact .inl ⟨d, h⟩
  · exact .inr (fun k hk => h k hk hk)

/-- The five kinds of a byte. -/
theorem kinds (c : Nat) : c = 40 ∨ c = 41 ∨ (48 ≤ c ∧ c ≤ 57) ∨ c = 45 ∨ (c ≠ 40 ∧ c ≠ 41 ∧ c ≠ 45 ∧ c < 48) ∨ 57 < c := by omega

/-- What rowLabel hands back: the text up to place j, and j. -/
def LabelPost (s : ByteArray) (i j : Nat) (w : World) (e : Ending) (w' : World) : Prop := e = .returned (.tuple #[.string (s.extract i j), .int .i64 (j : Int)]) ∧ w' = w

set_option maxHeartbeats 1000000 in
theorem label25_first (s : ByteArray) (i d0 : Nat) (w : World) (hs : s.size ≤ 1048576) (hf : First s i d0) :
    Calls Trym.prog 25 #[.string s, .int .i64 i] w (LabelPost s i (i + d0) w) := by
  obtain ⟨h1, h2, h3, h4⟩ := hf
  have H3 := hidden h3
  have H4 := hidden h4
  clear h3 h4
  go_enter Trym.func25, Trym.ntmps25
  go_wp2
  go_loop [6, 7, 8] (fun jv dv _ => ∃ j : Nat, i ≤ j ∧ j ≤ i + d0 ∧ jv = .int .i64 j ∧ dv = .int .i64 (bal s i (j - i))) (fun jv _ _ => i + d0 + 1 - (intOf jv).toNat)
  case atStart => exact ⟨i, Nat.le_refl _, by omega, rfl, by simp [bal]⟩
  case round =>
    obtain ⟨j, hij, hjd, rfl, rfl⟩ := hrel
    have hj : j < s.size := by omega
    have hb := bal_le s i (j - i)
    have hnx := bal_next s i j hij hj
    have hst := stop_eq s i j hij hj
    have hstop : j < i + d0 → stopAt s i (j - i) = false := fun h => H4.out (j - i) (by omega)
    have hstop0 : j = i + d0 → stopAt s i (j - i) = true := fun h => by rw [h, show i + d0 - i = d0 by omega]; exact H3.out
    have t1 : (j : Int) < (s.size : Int) := by omega
    have t2 : (j : Int) - (i : Int) < 120 := by omega
    have b1 : -120 ≤ bal s i (j - i) := by omega
    have b2 : bal s i (j - i) ≤ 120 := by omega
    have hc0 : (s[j].toNat : Int) < 256 := by have := s[j].toNat_lt; omega
    have HNX := hidden hnx
    have hlt_of : figB s[j].toNat = false ∨ (bal s i (j - i) == 0) = false → j < i + d0 := by
      intro h
      by_cases e : j = i + d0
      · have h5 := hstop0 e
        rw [hst] at h5
        rcases h with h | h <;> rw [h] at h5 <;> simp at h5
      · omega
    have heq_of : figB s[j].toNat = true → (bal s i (j - i) == 0) = true → j = i + d0 := by
      intro g1 g2
      by_cases e : j < i + d0
      · have h5 := hstop e
        rw [hst, g1, g2] at h5
        cases h5
      · omega
    have HLT := hidden hlt_of
    have HEQ := hidden heq_of
    clear hst hstop hstop0 hnx hlt_of heq_of hb
    have hbz : (bal s i (j - i) == 0) = true ∨ (bal s i (j - i) == 0) = false := by cases bal s i (j - i) == 0 <;> simp
    generalize bal s i (j - i) = B at *
    rcases kinds s[j].toNat with hc | hc | hc | hc | hc | hc
    · have hlt := HLT.out (.inl (by rw [hc]; exact figB_40))
      have k1 : ((s[j].toNat : Int) == 40) = true := by rw [hc]; rfl
      have HD : Hid (delta s[j].toNat = 1) := by rw [hc]; rfl
      clear hc hbz HLT HEQ
      go_wp2
      go_round
      case rel => exact ⟨j + 1, by omega, by omega, by go_num, by rw [HNX.out, HD.out]⟩
      case measure => simp [intOf]; omega
    · have hlt := HLT.out (.inl (by rw [hc]; exact figB_41))
      have k0 : ((s[j].toNat : Int) == 40) = false := by rw [hc]; rfl
      have k1 : ((s[j].toNat : Int) == 41) = true := by rw [hc]; rfl
      have HD : Hid (delta s[j].toNat = -1) := by rw [hc]; rfl
      clear hc hbz HLT HEQ
      go_wp2
      go_round
      case rel => exact ⟨j + 1, by omega, by omega, by go_num, by rw [HNX.out, HD.out]; go_num⟩
      case measure => simp [intOf]; omega
    · have k0 : ((s[j].toNat : Int) == 40) = false := by simp; omega
      have k1 : ((s[j].toNat : Int) == 41) = false := by simp; omega
      have HD : Hid (delta s[j].toNat = 0) := by unfold delta Hid; rw [if_neg (by omega), if_neg (by omega)]
      have HFig : Hid (figB s[j].toNat = true) := by unfold figB Hid; simp; omega
      have k2 : (48 : Int) ≤ (s[j].toNat : Int) := by omega
      have k3 : (s[j].toNat : Int) ≤ 57 := by omega
      rcases hbz with hbz | hbz
      · have he := HEQ.out HFig.out hbz
        have HE := hidden he
        clear hc HLT HEQ HNX HD HFig he
        go_wp2
        go_ret2
        rw [← HE.out]
        exact ⟨rfl, rfl⟩
      · have hlt := HLT.out (.inr hbz)
        clear hc HLT HEQ HFig
        go_wp2
        go_round
        case rel => exact ⟨j + 1, by omega, by omega, by go_num, by rw [HNX.out, HD.out]; go_num⟩
        case measure => simp [intOf]; omega
    · have k0 : ((s[j].toNat : Int) == 40) = false := by simp; omega
      have k1 : ((s[j].toNat : Int) == 41) = false := by simp; omega
      have HD : Hid (delta s[j].toNat = 0) := by unfold delta Hid; rw [if_neg (by omega), if_neg (by omega)]
      have HFig : Hid (figB s[j].toNat = true) := by unfold figB Hid; simp; omega
      have k2 : ¬ ((48 : Int) ≤ (s[j].toNat : Int)) := by omega
      have k3 : ((s[j].toNat : Int) == 45) = true := by simp; omega
      rcases hbz with hbz | hbz
      · have he := HEQ.out HFig.out hbz
        have HE := hidden he
        clear hc HLT HEQ HNX HD HFig he
        go_wp2
        go_ret2
        rw [← HE.out]
        exact ⟨rfl, rfl⟩
      · have hlt := HLT.out (.inr hbz)
        clear hc HLT HEQ HFig
        go_wp2
        go_round
        case rel => exact ⟨j + 1, by omega, by omega, by go_num, by rw [HNX.out, HD.out]; go_num⟩
        case measure => simp [intOf]; omega
    · have k0 : ((s[j].toNat : Int) == 40) = false := by simp; omega
      have k1 : ((s[j].toNat : Int) == 41) = false := by simp; omega
      have HD : Hid (delta s[j].toNat = 0) := by unfold delta Hid; rw [if_neg (by omega), if_neg (by omega)]
      have HFig : Hid (figB s[j].toNat = false) := by unfold figB Hid; simp; omega
      have k2 : ¬ ((48 : Int) ≤ (s[j].toNat : Int)) := by omega
      have k3 : ((s[j].toNat : Int) == 45) = false := by simp; omega
      have hlt := HLT.out (.inl HFig.out)
      clear hc HLT HEQ HFig
      rcases hbz with hbz | hbz
      all_goals
        go_wp2
        go_round
        case rel => exact ⟨j + 1, by omega, by omega, by go_num, by rw [HNX.out, HD.out]; go_num⟩
        case measure => simp [intOf]; omega
    · have k0 : ((s[j].toNat : Int) == 40) = false := by simp; omega
      have k1 : ((s[j].toNat : Int) == 41) = false := by simp; omega
      have HD : Hid (delta s[j].toNat = 0) := by unfold delta Hid; rw [if_neg (by omega), if_neg (by omega)]
      have HFig : Hid (figB s[j].toNat = false) := by unfold figB Hid; simp; omega
      have k2 : (48 : Int) ≤ (s[j].toNat : Int) := by omega
      have k3 : ¬ ((s[j].toNat : Int) ≤ 57) := by omega
      have k4 : ((s[j].toNat : Int) == 45) = false := by simp; omega
      have hlt := HLT.out (.inl HFig.out)
      clear hc HLT HEQ HFig
      rcases hbz with hbz | hbz
      all_goals
        go_wp2
        go_round
        case rel => exact ⟨j + 1, by omega, by omega, by go_num, by rw [HNX.out, HD.out]; go_num⟩
        case measure => simp [intOf]; omega

set_option maxHeartbeats 1000000 in
theorem label25_none (s : ByteArray) (i : Nat) (w : World) (hs : s.size ≤ 1048576) (hi : i < s.size) (hf : NoStop s i) :
    Calls Trym.prog 25 #[.string s, .int .i64 i] w fun e w' => e = .returned (.tuple #[.string ByteArray.empty, .int .i64 (i : Int)]) ∧ w' = w := by
  have H4 := hidden hf
  clear hf
  obtain ⟨lim, hlim⟩ : ∃ lim, lim = min s.size (i + 120) := ⟨_, rfl⟩
  have l1 : lim ≤ s.size := by omega
  have l2 : lim ≤ i + 120 := by omega
  have l3 : lim = s.size ∨ lim = i + 120 := by omega
  have l4 : i < lim := by omega
  clear hlim
  go_enter Trym.func25, Trym.ntmps25
  go_wp2
  go_loop [6, 7, 8] (fun jv dv _ => ∃ j : Nat, i ≤ j ∧ j ≤ lim ∧ jv = .int .i64 j ∧ dv = .int .i64 (bal s i (j - i))) (fun jv _ _ => lim + 1 - (intOf jv).toNat)
  case atStart => exact ⟨i, Nat.le_refl _, by omega, rfl, by simp [bal]⟩
  case round =>
    obtain ⟨j, hij, hjd, rfl, rfl⟩ := hrel
    have hb := bal_le s i (j - i)
    by_cases hjl : j < lim
    · have hj : j < s.size := by omega
      have hnx := bal_next s i j hij hj
      have hst := stop_eq s i j hij hj
      rw [H4.out (j - i) (by omega) (by omega)] at hst
      have t1 : (j : Int) < (s.size : Int) := by omega
      have t2 : (j : Int) - (i : Int) < 120 := by omega
      have b1 : -120 ≤ bal s i (j - i) := by omega
      have b2 : bal s i (j - i) ≤ 120 := by omega
      have hc0 : (s[j].toNat : Int) < 256 := by have := s[j].toNat_lt; omega
      have HNX := hidden hnx
      have HST := hidden hst
      clear hst hnx hb l3
      have hbz : (bal s i (j - i) == 0) = true ∨ (bal s i (j - i) == 0) = false := by cases bal s i (j - i) == 0 <;> simp
      generalize bal s i (j - i) = B at *
      rcases kinds s[j].toNat with hc | hc | hc | hc | hc | hc
      · have hlt := hjl
        have k1 : ((s[j].toNat : Int) == 40) = true := by rw [hc]; rfl
        have HD : Hid (delta s[j].toNat = 1) := by rw [hc]; rfl
        clear hc hbz HST
        go_wp2
        go_round
        case rel => exact ⟨j + 1, by omega, by omega, by go_num, by rw [HNX.out, HD.out]⟩
        case measure => simp [intOf]; omega
      · have hlt := hjl
        have k0 : ((s[j].toNat : Int) == 40) = false := by rw [hc]; rfl
        have k1 : ((s[j].toNat : Int) == 41) = true := by rw [hc]; rfl
        have HD : Hid (delta s[j].toNat = -1) := by rw [hc]; rfl
        clear hc hbz HST
        go_wp2
        go_round
        case rel => exact ⟨j + 1, by omega, by omega, by go_num, by rw [HNX.out, HD.out]; go_num⟩
        case measure => simp [intOf]; omega
      · have k0 : ((s[j].toNat : Int) == 40) = false := by simp; omega
        have k1 : ((s[j].toNat : Int) == 41) = false := by simp; omega
        have HD : Hid (delta s[j].toNat = 0) := by unfold delta Hid; rw [if_neg (by omega), if_neg (by omega)]
        have HFig : Hid (figB s[j].toNat = true) := by unfold figB Hid; simp; omega
        have k2 : (48 : Int) ≤ (s[j].toNat : Int) := by omega
        have k3 : (s[j].toNat : Int) ≤ 57 := by omega
        rcases hbz with hbz | hbz
        · have h5 := HST.out
          rw [HFig.out, hbz] at h5
          cases h5
        · have hlt := hjl
          clear hc HST HFig
          go_wp2
          go_round
          case rel => exact ⟨j + 1, by omega, by omega, by go_num, by rw [HNX.out, HD.out]; go_num⟩
          case measure => simp [intOf]; omega
      · have k0 : ((s[j].toNat : Int) == 40) = false := by simp; omega
        have k1 : ((s[j].toNat : Int) == 41) = false := by simp; omega
        have HD : Hid (delta s[j].toNat = 0) := by unfold delta Hid; rw [if_neg (by omega), if_neg (by omega)]
        have HFig : Hid (figB s[j].toNat = true) := by unfold figB Hid; simp; omega
        have k2 : ¬ ((48 : Int) ≤ (s[j].toNat : Int)) := by omega
        have k3 : ((s[j].toNat : Int) == 45) = true := by simp; omega
        rcases hbz with hbz | hbz
        · have h5 := HST.out
          rw [HFig.out, hbz] at h5
          cases h5
        · have hlt := hjl
          clear hc HST HFig
          go_wp2
          go_round
          case rel => exact ⟨j + 1, by omega, by omega, by go_num, by rw [HNX.out, HD.out]; go_num⟩
          case measure => simp [intOf]; omega
      · have k0 : ((s[j].toNat : Int) == 40) = false := by simp; omega
        have k1 : ((s[j].toNat : Int) == 41) = false := by simp; omega
        have HD : Hid (delta s[j].toNat = 0) := by unfold delta Hid; rw [if_neg (by omega), if_neg (by omega)]
        have HFig : Hid (figB s[j].toNat = false) := by unfold figB Hid; simp; omega
        have k2 : ¬ ((48 : Int) ≤ (s[j].toNat : Int)) := by omega
        have k3 : ((s[j].toNat : Int) == 45) = false := by simp; omega
        have hlt := hjl
        clear hc HST HFig
        rcases hbz with hbz | hbz
        all_goals
          go_wp2
          go_round
          case rel => exact ⟨j + 1, by omega, by omega, by go_num, by rw [HNX.out, HD.out]; go_num⟩
          case measure => simp [intOf]; omega
      · have k0 : ((s[j].toNat : Int) == 40) = false := by simp; omega
        have k1 : ((s[j].toNat : Int) == 41) = false := by simp; omega
        have HD : Hid (delta s[j].toNat = 0) := by unfold delta Hid; rw [if_neg (by omega), if_neg (by omega)]
        have HFig : Hid (figB s[j].toNat = false) := by unfold figB Hid; simp; omega
        have k2 : (48 : Int) ≤ (s[j].toNat : Int) := by omega
        have k3 : ¬ ((s[j].toNat : Int) ≤ 57) := by omega
        have k4 : ((s[j].toNat : Int) == 45) = false := by simp; omega
        have hlt := hjl
        clear hc HST HFig
        rcases hbz with hbz | hbz
        all_goals
          go_wp2
          go_round
          case rel => exact ⟨j + 1, by omega, by omega, by go_num, by rw [HNX.out, HD.out]; go_num⟩
          case measure => simp [intOf]; omega

    · clear hb
      generalize bal s i (j - i) = B
      have hjE : j = lim := by omega
      by_cases hjs : j < s.size
      · have t1 : (j : Int) < (s.size : Int) := by omega
        have t2 : ¬ ((j : Int) - (i : Int) < 120) := by omega
        clear l3 hjE
        go_wp2
        go_ret2
        exact ⟨rfl, rfl⟩
      · have t1 : ¬ ((j : Int) < (s.size : Int)) := by omega
        clear l3 hjE
        go_wp2
        go_ret2
        exact ⟨rfl, rfl⟩

set_option maxHeartbeats 1000000 in
theorem label25_far (s : ByteArray) (i : Int) (w : World) (hi : (s.size : Int) ≤ i) :
    Calls Trym.prog 25 #[.string s, .int .i64 i] w fun e w' => e = .returned (.tuple #[.string ByteArray.empty, .int .i64 i]) ∧ w' = w := by
  have t1 : ¬ (i < (s.size : Int)) := by omega
  go_enter Trym.func25, Trym.ntmps25
  go_wp2
  refine wp_loop_rounds 1 ?_
  rw [rounds_succ]
  go_wp2
  go_ret2
  exact ⟨rfl, rfl⟩

end Go.Proofs.Qxb6604042aMods
