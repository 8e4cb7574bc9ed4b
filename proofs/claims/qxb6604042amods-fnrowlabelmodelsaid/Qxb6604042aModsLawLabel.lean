/-
  THE WALK over FnRowLabelModel (3).
-/
import Derived.Test.Qxb6604042aModsLabel
namespace Go.Proofs.Qxb6604042aMods
open Go.RowKit

set_option maxHeartbeats 400000 in
theorem bytes8 (s : ByteArray) (i : Int) (w : World) (hs : s.size ≤ maxLen) :
    Calls Trym.prog 8 #[.string s, .int .i64 i] w fun e w' => e = .returned (.bool (decide (s.size ≤ 1048576))) ∧ w' = w := by
  unfold maxLen at hs
  by_cases h : s.size ≤ 1048576
  · have h' : ¬ ((1048576 : Int) < (s.size : Int)) := by omega
    go_enter Trym.func8, Trym.ntmps8
    go_wp2
    go_ret
    exact ⟨by simp, rfl⟩
  · have h' : ((1048576 : Int) < (s.size : Int)) := by omega
    go_enter Trym.func8, Trym.ntmps8
    go_wp2
    go_ret
    exact ⟨by simp [h], rfl⟩

theorem zzlabel9_first (s : ByteArray) (i d0 : Nat) (w : World) (hs : s.size ≤ 1048576) (hf : First s i d0) :
    Calls Trym.prog 9 #[.string s, .int .i64 i] w (LabelPost s i (i + d0) w) := by
  have HF := hidden hf
  clear hf
  generalize hj : i + d0 = j
  have HJ := hidden hj
  clear hj
  go_enter Trym.func9, Trym.ntmps9
  go_wp2_with fail
  refine (label25_first s i d0 _ hs HF.out).mono ?_
  rw [HJ.out]
  rintro e w' ⟨rfl, rfl⟩
  go_wp2
  go_ret2
  exact ⟨rfl, rfl⟩

theorem zzlabel9_none (s : ByteArray) (i : Int) (w : World) (h : ∀ w, Calls Trym.prog 25 #[.string s, .int .i64 i] w fun e w' => e = .returned (.tuple #[.string ByteArray.empty, .int .i64 i]) ∧ w' = w) :
    Calls Trym.prog 9 #[.string s, .int .i64 i] w fun e w' => e = .returned (.tuple #[.string ByteArray.empty, .int .i64 i]) ∧ w' = w := by
  have H := hidden h
  clear h
  go_enter Trym.func9, Trym.ntmps9
  go_wp2_with fail
  refine (H.out _).mono ?_
  rintro e w' ⟨rfl, rfl⟩
  go_wp2
  go_ret2
  exact ⟨rfl, rfl⟩

set_option maxHeartbeats 400000 in
theorem fig10 (c : Nat) (w : World) (hc : c < 256) :
    Calls Trym.prog 10 #[.int .u8 (c : Int)] w fun e w' => e = .returned (.bool (figB c)) ∧ w' = w := by
  have hcases : (c < 48 ∧ c ≠ 45) ∨ c = 45 ∨ (48 ≤ c ∧ c ≤ 57) ∨ 57 < c := by omega
  rcases hcases with h | h | h | h
  · have k1 : ¬ ((48 : Int) ≤ (c : Int)) := by omega
    have k2 : ((c : Int) == 45) = false := by simp; omega
    have HF : Hid (figB c = false) := by unfold figB Hid; simp; omega
    clear h
    go_enter Trym.func10, Trym.ntmps10
    go_wp2
    go_ret
    exact ⟨by rw [HF.out]; rfl, rfl⟩
  · have k1 : ¬ ((48 : Int) ≤ (c : Int)) := by omega
    have k2 : ((c : Int) == 45) = true := by simp; omega
    have HF : Hid (figB c = true) := by unfold figB Hid; simp; omega
    clear h
    go_enter Trym.func10, Trym.ntmps10
    go_wp2
    go_ret
    exact ⟨by rw [HF.out]; rfl, rfl⟩
  · have k1 : ((48 : Int) ≤ (c : Int)) := by omega
    have k2 : ((c : Int) ≤ 57) := by omega
    have HF : Hid (figB c = true) := by unfold figB Hid; simp; omega
    clear h
    go_enter Trym.func10, Trym.ntmps10
    go_wp2
    go_ret
    exact ⟨by rw [HF.out]; rfl, rfl⟩
  · have k1 : ((48 : Int) ≤ (c : Int)) := by omega
    have k2 : ¬ ((c : Int) ≤ 57) := by omega
    have k3 : ((c : Int) == 45) = false := by simp; omega
    have HF : Hid (figB c = false) := by unfold figB Hid; simp; omega
    clear h
    go_enter Trym.func10, Trym.ntmps10
    go_wp2
    go_ret
    exact ⟨by rw [HF.out]; rfl, rfl⟩

set_option maxHeartbeats 1000000 in
theorem bal11 (s : ByteArray) (i p : Nat) (w : World) (hs : s.size ≤ 1048576) (hip : i ≤ p) (hp : p ≤ s.size) :
    Calls Trym.prog 11 #[.string s, .int .i64 i, .int .i64 p] w fun e w' => e = .returned (.int .i64 (bal s i (p - i))) ∧ w' = w := by
  go_enter Trym.func11, Trym.ntmps11
  go_wp2
  go_loop [7, 8] (fun nv qv => ∃ q : Nat, i ≤ q ∧ q ≤ p ∧ qv = .int .i64 q ∧ nv = .int .i64 (bal s i (q - i))) (fun _ qv => p - (intOf qv).toNat)
  case atStart => exact ⟨i, Nat.le_refl _, hip, rfl, by simp [bal]⟩
  case round =>
    obtain ⟨q, hiq, hqp, rfl, rfl⟩ := hrel
    have hb := bal_le s i (q - i)
    by_cases hlt : q < p
    · have hq : q < s.size := by omega
      have hnx := bal_next s i q hiq hq
      have b1 : -1048576 ≤ bal s i (q - i) := by omega
      have b2 : bal s i (q - i) ≤ 1048576 := by omega
      have HNX := hidden hnx
      clear hnx hb
      generalize bal s i (q - i) = B at *
      have t1 : (q : Int) < (s.size : Int) := by omega
      by_cases h40 : s[q].toNat = 40
      · have k1 : ((s[q].toNat : Int) == 40) = true := by rw [h40]; rfl
        have HD : Hid (delta s[q].toNat = 1) := by rw [h40]; rfl
        clear h40
        go_wp2
        go_round
        case rel => exact ⟨q + 1, by omega, by omega, by go_num, by rw [HNX.out, HD.out]⟩
        case measure => simp [intOf]; omega
      · have k1 : ((s[q].toNat : Int) == 40) = false := by simp; omega
        by_cases h41 : s[q].toNat = 41
        · have k2 : ((s[q].toNat : Int) == 41) = true := by rw [h41]; rfl
          have HD : Hid (delta s[q].toNat = -1) := by rw [h41]; rfl
          clear h40 h41
          go_wp2
          go_round
          case rel => exact ⟨q + 1, by omega, by omega, by go_num, by rw [HNX.out, HD.out]; go_num⟩
          case measure => simp [intOf]; omega
        · have k2 : ((s[q].toNat : Int) == 41) = false := by simp; omega
          have HD : Hid (delta s[q].toNat = 0) := by unfold delta Hid; rw [if_neg h40, if_neg h41]
          clear h40 h41
          go_wp2
          go_round
          case rel => exact ⟨q + 1, by omega, by omega, by go_num, by rw [HNX.out, HD.out]; go_num⟩
          case measure => simp [intOf]; omega
    · have hqE : q = p := by omega
      subst hqE
      clear hb
      generalize hB : bal s i (q - i) = B
      have HB := hidden hB
      clear hB
      go_wp2
      go_ret
      exact ⟨by rw [HB.out]; rfl, rfl⟩

/-- A law's own post: true; the world as it was. -/
def LawPost (w : World) (e : Ending) (w' : World) : Prop := e = .returned (.bool true) ∧ w' = w

set_option maxRecDepth 100000 in
set_option maxHeartbeats 4000000 in
theorem law3_first (s : ByteArray) (i d0 : Nat) (w : World) (hs : s.size ≤ 1048576) (hf : First s i d0) :
    Calls Trym.prog 3 #[.string s, .int .i64 i] w (LawPost w) := by
  have hm : s.size ≤ maxLen := by unfold maxLen; omega
  have hd : decide (s.size ≤ 1048576) = true := by simpa using hs
  have hi : i + d0 < s.size := hf.1
  have hd0 : d0 < 120 := hf.2.1
  have t0 : ¬ ((1048576 : Int) < (s.size : Int)) := by omega
  have t1 : (i : Int) < (s.size : Int) := by omega
  have t2 : ¬ ((i : Int) < 0) := by omega
  have HF := hidden hf
  clear hf
  generalize hJ : i + d0 = J at *
  have HJ := hidden hJ
  clear hJ
  have hcase : ((120 : Int) < (s.size : Int) - (i : Int)) ∨ ¬ ((120 : Int) < (s.size : Int) - (i : Int)) := Classical.em _
  have hJi : J < i + 120 := by have := HJ.out; omega
  have hiJ : i ≤ J := by have := HJ.out; omega
  rcases hcase with h120 | h120
  all_goals
    go_enter Trym.func3, Trym.ntmps3
    go_wp2_with (go_at_call 8; refine (bytes8 _ _ _ hm).mono ?_; rintro e w' ⟨rfl, hw⟩; obtain rfl := hw.symm; clear hw)
    refine (zzlabel9_first s i d0 _ hs HF.out).mono ?_
    rw [HJ.out]
    rintro e w' ⟨rfl, hw⟩
    obtain rfl := hw.symm
    clear hw
    go_wp2
    go_loop [7, 8, 10] (fun wv ev pv => ∃ p : Nat, i ≤ p ∧ p ≤ J ∧ pv = .int .i64 p ∧ wv = .string ByteArray.empty ∧ ev = .int .i64 i) (fun _ _ pv => J + 1 - (intOf pv).toNat)
    case atStart => exact ⟨i, Nat.le_refl _, hiJ, rfl, rfl, rfl⟩
    case round =>
      obtain ⟨p, hip, hpJ, rfl, rfl, rfl⟩ := hrel
      have hp : p < s.size := by omega
      have hst := stop_eq s i p hip hp
      have hc0 : s[p].toNat < 256 := by have := s[p].toNat_lt; omega
      have q1 : (p : Int) < (s.size : Int) := by omega
      have q2 : (p : Int) < (i : Int) + 120 := by omega
      by_cases hpl : p < J
      · have hsf : (figB s[p].toNat && (bal s i (p - i) == 0)) = false := by
          rw [← hst]; exact HF.out.2.2.2 (p - i) (by have := HJ.out; omega)
        clear hst
        cases hfg : figB s[p].toNat with
        | false =>
          clear hsf
          go_wp2_with fail
          refine (fig10 _ _ hc0).mono ?_
          rintro e w' ⟨rfl, hw⟩
          obtain rfl := hw.symm
          clear hw
          go_wp2
          go_round
          case rel => exact ⟨p + 1, by omega, by omega, by go_num, rfl, rfl⟩
          case measure => simp [intOf]; omega
        | true =>
          rw [hfg] at hsf
          have hbz : (bal s i (p - i) == 0) = false := by simpa using hsf
          clear hsf
          go_wp2_with fail
          refine (fig10 _ _ hc0).mono ?_
          rintro e w' ⟨rfl, hw⟩
          obtain rfl := hw.symm
          clear hw
          go_wp2_with fail
          refine (bal11 s i p _ hs hip (by omega)).mono ?_
          rintro e w' ⟨rfl, hw⟩
          obtain rfl := hw.symm
          clear hw
          generalize bal s i (p - i) = B at *
          go_wp2
          go_round
          case rel => exact ⟨p + 1, by omega, by omega, by go_num, rfl, rfl⟩
          case measure => simp [intOf]; omega
      · have hpE : p = J := by omega
        have hsf : (figB s[p].toNat && (bal s i (p - i) == 0)) = true := by
          rw [← hst]
          have := HF.out.2.2.1
          rw [show p - i = d0 by have := HJ.out; omega]; exact this
        have hfg : figB s[p].toNat = true := by simp at hsf; exact hsf.1
        have hbz : (bal s i (p - i) == 0) = true := by simp at hsf; simpa using hsf.2
        have HE := hidden hpE
        clear hst hsf hpE
        go_wp2_with fail
        refine (fig10 _ _ hc0).mono ?_
        rintro e w' ⟨rfl, hw⟩
        obtain rfl := hw.symm
        clear hw
        go_wp2_with fail
        refine (bal11 s i p _ hs hip (by omega)).mono ?_
        rintro e w' ⟨rfl, hw⟩
        obtain rfl := hw.symm
        clear hw
        generalize bal s i (p - i) = B at *
        have hpe : ((J : Int) == (p : Int)) = true := by rw [HE.out]; simp
        have HEx : Hid (s.extract i J = s.extract i p) := by rw [HE.out]; rfl
        rw [HEx.out]
        clear HEx
        go_wp2
        go_ret
        exact ⟨by simp, rfl⟩

set_option maxRecDepth 100000 in
set_option maxHeartbeats 4000000 in
theorem law3_none (s : ByteArray) (i : Nat) (w : World) (hs : s.size ≤ 1048576) (hi : i < s.size) (hf : NoStop s i) :
    Calls Trym.prog 3 #[.string s, .int .i64 i] w (LawPost w) := by
  have hm : s.size ≤ maxLen := by unfold maxLen; omega
  have hd : decide (s.size ≤ 1048576) = true := by simpa using hs
  have t0 : ¬ ((1048576 : Int) < (s.size : Int)) := by omega
  have t1 : (i : Int) < (s.size : Int) := by omega
  have t2 : ¬ ((i : Int) < 0) := by omega
  have HF := hidden hf
  clear hf
  have hcase : ((120 : Int) < (s.size : Int) - (i : Int) ∧ ∃ lim : Nat, (lim : Int) = (i : Int) + 120 ∧ lim ≤ s.size ∧ i < lim ∧ lim ≤ i + 120) ∨ (¬ ((120 : Int) < (s.size : Int) - (i : Int)) ∧ ∃ lim : Nat, (lim : Int) = (s.size : Int) ∧ lim ≤ s.size ∧ i < lim ∧ lim ≤ i + 120) := by
    by_cases h : (120 : Int) < (s.size : Int) - (i : Int)
    · exact .inl ⟨h, i + 120, by omega, by omega, by omega, by omega⟩
    · exact .inr ⟨h, s.size, by omega, by omega, by omega, by omega⟩
  rcases hcase with ⟨h120, lim, hl, l1, l2, l3⟩ | ⟨h120, lim, hl, l1, l2, l3⟩
  all_goals
    have HL := hidden hl
    clear hl
    go_enter Trym.func3, Trym.ntmps3
    go_wp2_with (go_at_call 8; refine (bytes8 _ _ _ hm).mono ?_; rintro e w' ⟨rfl, hw⟩; obtain rfl := hw.symm; clear hw)
    refine (zzlabel9_none s i _ (fun w => label25_none s i w hs hi HF.out)).mono ?_
    rintro e w' ⟨rfl, hw⟩
    obtain rfl := hw.symm
    clear hw
    go_wp2
    go_loop [7, 8, 10] (fun wv ev pv => ∃ p : Nat, i ≤ p ∧ p ≤ lim ∧ pv = .int .i64 p ∧ wv = .string ByteArray.empty ∧ ev = .int .i64 i) (fun _ _ pv => lim + 1 - (intOf pv).toNat)
    case atStart => exact ⟨i, Nat.le_refl _, by omega, rfl, rfl, rfl⟩
    case round =>
      obtain ⟨p, hip, hpJ, rfl, rfl, rfl⟩ := hrel
      by_cases hpl : p < lim
      · have hp : p < s.size := by omega
        have hst := stop_eq s i p hip hp
        rw [HF.out (p - i) (by omega) (by omega)] at hst
        have hc0 : s[p].toNat < 256 := by have := s[p].toNat_lt; omega
        have q1 : (p : Int) < (s.size : Int) := by omega
        have q2 : (p : Int) < (i : Int) + 120 := by omega
        have hsf : (figB s[p].toNat && (bal s i (p - i) == 0)) = false := hst.symm
        clear hst
        cases hfg : figB s[p].toNat with
        | false =>
          clear hsf
          go_wp2_with fail
          refine (fig10 _ _ hc0).mono ?_
          rintro e w' ⟨rfl, hw⟩
          obtain rfl := hw.symm
          clear hw
          go_wp2
          go_round
          case rel => exact ⟨p + 1, by omega, by omega, by go_num, rfl, rfl⟩
          case measure => simp [intOf]; omega
        | true =>
          rw [hfg] at hsf
          have hbz : (bal s i (p - i) == 0) = false := by simpa using hsf
          clear hsf
          go_wp2_with fail
          refine (fig10 _ _ hc0).mono ?_
          rintro e w' ⟨rfl, hw⟩
          obtain rfl := hw.symm
          clear hw
          go_wp2_with fail
          refine (bal11 s i p _ hs hip (by omega)).mono ?_
          rintro e w' ⟨rfl, hw⟩
          obtain rfl := hw.symm
          clear hw
          generalize bal s i (p - i) = B at *
          go_wp2
          go_round
          case rel => exact ⟨p + 1, by omega, by omega, by go_num, rfl, rfl⟩
          case measure => simp [intOf]; omega
      · have q1 : ¬ ((p : Int) < (s.size : Int) ∧ (p : Int) < (i : Int) + 120) := by have := HL.out; omega
        have hpe : (p : Int) = (lim : Int) := by omega
        rw [HL.out] at hpe
        have q2 := Int.lt_irrefl (p : Int)
        rw [hpe] at q2 ⊢
        go_wp2
        go_ret
        exact ⟨by simp, rfl⟩

set_option maxHeartbeats 1000000 in
theorem law3_far (s : ByteArray) (i : Int) (w : World) (hs : s.size ≤ 1048576) (hi : (s.size : Int) ≤ i) :
    Calls Trym.prog 3 #[.string s, .int .i64 i] w (LawPost w) := by
  have hm : s.size ≤ maxLen := by unfold maxLen; omega
  have hd : decide (s.size ≤ 1048576) = true := by simpa using hs
  have t0 : ¬ ((1048576 : Int) < (s.size : Int)) := by omega
  have t1 : ¬ (i < (s.size : Int)) := by omega
  have t2 : ¬ (i < 0) := by omega
  have HI := hidden hi
  clear hi
  go_enter Trym.func3, Trym.ntmps3
  go_wp2_with (go_at_call 8; refine (bytes8 _ _ _ hm).mono ?_; rintro e w' ⟨rfl, hw⟩; obtain rfl := hw.symm; clear hw)
  refine (zzlabel9_none s i _ (fun w => label25_far s i w HI.out)).mono ?_
  rintro e w' ⟨rfl, hw⟩
  obtain rfl := hw.symm
  clear hw
  go_wp2
  go_ret
  exact ⟨by simp, rfl⟩

set_option maxHeartbeats 1000000 in
theorem law3_neg (s : ByteArray) (i : Int) (w : World) (hs : s.size ≤ 1048576) (hi : i < 0) :
    Calls Trym.prog 3 #[.string s, .int .i64 i] w (LawPost w) := by
  have hm : s.size ≤ maxLen := by unfold maxLen; omega
  have hd : decide (s.size ≤ 1048576) = true := by simpa using hs
  have t0 : ¬ ((1048576 : Int) < (s.size : Int)) := by omega
  go_enter Trym.func3, Trym.ntmps3
  go_wp2_with (go_at_call 8; refine (bytes8 _ _ _ hm).mono ?_; rintro e w' ⟨rfl, hw⟩; obtain rfl := hw.symm; clear hw)
  go_ret
  exact ⟨rfl, rfl⟩

set_option maxHeartbeats 1000000 in
theorem law3_long (s : ByteArray) (i : Int) (w : World) (hm : s.size ≤ maxLen) (hs : ¬ s.size ≤ 1048576) :
    Calls Trym.prog 3 #[.string s, .int .i64 i] w (LawPost w) := by
  have hd : decide (s.size ≤ 1048576) = false := by simpa using hs
  go_enter Trym.func3, Trym.ntmps3
  go_wp2_with (go_at_call 8; refine (bytes8 _ _ _ hm).mono ?_; rintro e w' ⟨rfl, hw⟩; obtain rfl := hw.symm; clear hw)
  go_ret
  exact ⟨rfl, rfl⟩

theorem law3 (s : ByteArray) (i : Int) (w : World) (hm : s.size ≤ maxLen) : Calls Trym.prog 3 #[.string s, .int .i64 i] w (LawPost w) := by
  by_cases hs : s.size ≤ 1048576
  · by_cases h1 : i < 0
    · exact law3_neg s i w hs h1
    · by_cases h2 : (s.size : Int) ≤ i
      · exact law3_far s i w hs h2
      · obtain ⟨k, rfl⟩ := Int.eq_ofNat_of_zero_le (show 0 ≤ i by omega)
        rcases first_or s k with ⟨d, hd⟩ | h
        · exact law3_first s k d w hs hd
        · exact law3_none s k w hs (by omega) h
  · exact law3_long s i w hm hs

end Go.Proofs.Qxb6604042aMods
