/-
  THE WALK over FnWindowStartsWithItselfOrNothing (5).
-/
import Derived.Test.Qxb6602788aModsStarts
namespace Go.Proofs.Qxb6602788aMods
open Go.RowKit

set_option maxHeartbeats 400000 in
theorem bytes18 (a : Option Addr) (n c : Nat) (w : World) (hn : n ≤ maxLen) :
    Calls Trym.prog 18 #[.slice a n c] w fun e w' => e = .returned (.bool (decide (n ≤ 1048576))) ∧ w' = w := by
  unfold maxLen at hn
  by_cases h : n ≤ 1048576
  · have h' : ¬ ((1048576 : Int) < (n : Int)) := by omega
    go_enter Trym.func18, Trym.ntmps18
    go_wp2
    go_ret
    exact ⟨by simp, rfl⟩
  · have h' : ((1048576 : Int) < (n : Int)) := by omega
    go_enter Trym.func18, Trym.ntmps18
    go_wp2
    go_ret
    exact ⟨by simp [h], rfl⟩

/-- One comparison: the merge gave just the starts. -/
theorem cmp_same {w1 : World} {l : List Nat} {n : Nat} {xs : List (Nat × Int)} {b : Nat} (hl : l = xs.map (·.1)) (hx : xs.length = n) (hf : FRow w1 (some ⟨b, 0, none⟩) l.length l) : l.length = n ∧ FRow w1 (some ⟨b, 0, none⟩) n (xs.map (·.1)) := by
  subst hl
  have e : (xs.map (·.1)).length = n := by simpa using hx
  exact ⟨e, by rw [e] at hf; exact hf⟩

theorem wrow_nil (w : World) (a : Option Addr) : WRow w a 0 [] := ⟨rfl, .inl rfl⟩

theorem PRow.drewN {α : Type} {f g : α → Value} {w : World} {a : Option Addr} {n : Nat} {l : List α} (h : PRow f g w a n l) (m : Nat) : PRow f g (w.drewN m) a n l := h

set_option maxRecDepth 100000 in
set_option maxHeartbeats 4000000 in
theorem law5 (a : Option Addr) (n c : Nat) (xs : List (Nat × Int)) (w : World) (hn : n ≤ maxLen) (hr : WRow w a n xs) (h0 : a = none → n = 0 ∧ c = 0) :
    Calls Trym.prog 5 #[.slice a n c] w (LawPost w) := by
  have hn' : n ≤ maxLen := hn
  unfold maxLen at hn
  have hx : xs.length = n := hr.1
  by_cases h4 : n ≤ 4096
  · have hd : decide (n ≤ 1048576) = true := by simp; omega
    have h4' : ¬ ((4096 : Int) < (n : Int)) := by omega
    have h16 : ¬ ((1048576 : Int) < 16 * (n : Int)) := by omega
    have HR := hidden hr
    have H0 := hidden h0
    clear hr h0
    go_enter Trym.func5, Trym.ntmps5
    go_wp2_with (go_at_call 18; refine (bytes18 _ _ _ _ hn').mono ?_; rintro e w' ⟨rfl, hw⟩; obtain rfl := hw.symm; clear hw)
    refine (sort11 _ _ _ xs _ (by omega) HR.out).mono ?_
    rintro e w' ⟨sb, rfl, hw, _⟩
    obtain rfl := hw.symm
    clear hw
    cases sb with
    | false =>
      go_wp2
      go_ret
      exact ⟨rfl, Below.refl _ _⟩
    | true =>
      go_wp2_with fail
      refine (wins13 _ _ _ xs _ (by omega) HR.out H0.out).mono ?_
      rintro e w1 ⟨ra, rc, rfl, hrow, hnone, hb1, _⟩
      have HW := hidden hrow
      have HB1 := hidden hb1
      clear hrow hb1 hnone
      go_wp2_with fail
      -- with itself
      refine (zzstarts12 _ _ _ xs _ _ _ xs _ h4 h4 HW.out HW.out).mono ?_
      rintro e w2 ⟨b2, c2, rfl, hf2, hb2⟩
      rw [mg_self] at hf2 ⊢
      obtain ⟨e2, hf2'⟩ := cmp_same rfl hx hf2
      rw [e2]
      have HF2 := hidden hf2'
      have HW2 : Hid (WRow w2 ra n xs) := HW.out.later hb2
      have HB2 : Hid (Below w.heap.size w w2) := HB1.out.trans (hb2.mono HB1.out.size)
      clear hf2 hf2' hb2 e2
      go_wp2_with fail
      refine (starts19 _ _ _ _ _ xs _ (by omega) HF2.out (HR.out.later HB2.out)).mono ?_
      rintro e w2' ⟨m2, rfl, rfl⟩
      go_wp2_with fail
      -- with nil
      refine (zzstarts12 _ _ _ xs _ _ _ [] _ h4 (by omega) (HW2.out.drewN m2) (wrow_nil _ _)).mono ?_
      rintro e w3 ⟨b3, c3, rfl, hf3, hb3⟩
      rw [List.map_nil, mg_nil_right] at hf3 ⊢
      obtain ⟨e3, hf3'⟩ := cmp_same rfl hx hf3
      rw [e3]
      have HF3 := hidden hf3'
      have HW3 : Hid (WRow w3 ra n xs) := (HW2.out.drewN m2).later hb3
      have HB3 : Hid (Below w.heap.size w w3) := (below_drewN HB2.out m2).trans (hb3.mono HB2.out.size)
      clear hf3 hf3' hb3 e3
      go_wp2_with fail
      refine (starts19 _ _ _ _ _ xs _ (by omega) HF3.out (HR.out.later HB3.out)).mono ?_
      rintro e w3' ⟨m3, rfl, rfl⟩
      go_wp2_with fail
      -- nil with it
      refine (zzstarts12 _ _ _ [] _ _ _ xs _ (by omega) h4 (wrow_nil _ _) (HW3.out.drewN m3)).mono ?_
      rintro e w4 ⟨b4, c4, rfl, hf4, hb4⟩
      rw [List.map_nil, mg_nil_left] at hf4 ⊢
      obtain ⟨e4, hf4'⟩ := cmp_same rfl hx hf4
      rw [e4]
      have HF4 := hidden hf4'
      have HW4 : Hid (WRow w4 ra n xs) := (HW3.out.drewN m3).later hb4
      have HB4 : Hid (Below w.heap.size w w4) := (below_drewN HB3.out m3).trans (hb4.mono HB3.out.size)
      clear hf4 hf4' hb4 e4
      go_wp2_with fail
      refine (starts19 _ _ _ _ _ xs _ (by omega) HF4.out (HR.out.later HB4.out)).mono ?_
      rintro e w4' ⟨m4, rfl, rfl⟩
      go_wp2_with fail
      -- with an empty slice
      have hba : Below w4.heap.size w4 ((w4.drewN m4).alloc (.cells #[] 47)) := (below_drewN (Below.refl _ _) m4).alloc (Nat.le_refl _) _
      refine (zzstarts12 _ _ _ xs _ _ _ [] ((w4.drewN m4).alloc (.cells #[] 47)) h4 (by omega) (HW4.out.later hba) (wrow_nil _ _)).mono ?_
      rintro e w5 ⟨b5, c5, rfl, hf5, hb5⟩
      rw [List.map_nil, mg_nil_right] at hf5 ⊢
      obtain ⟨e5, hf5'⟩ := cmp_same rfl hx hf5
      rw [e5]
      have HF5 := hidden hf5'
      have HB5 : Hid (Below w.heap.size w w5) := (HB4.out.trans (hba.mono HB4.out.size)).trans (hb5.mono (Nat.le_trans HB4.out.size hba.size))
      clear hf5 hf5' hb5 e5 hba
      go_wp2_with fail
      refine (starts19 _ _ _ _ _ xs _ (by omega) HF5.out (HR.out.later HB5.out)).mono ?_
      rintro e w5' ⟨m5, rfl, rfl⟩
      go_wp2_with fail
      go_ret
      exact ⟨rfl, below_drewN HB5.out m5⟩
  · have h4' : ((4096 : Int) < (n : Int)) := by omega
    by_cases hd : n ≤ 1048576
    all_goals
      go_enter Trym.func5, Trym.ntmps5
      go_wp2_with (go_at_call 18; refine (bytes18 _ _ _ _ hn').mono ?_; rintro e w' ⟨rfl, hw⟩; obtain rfl := hw.symm; clear hw)
      go_ret
      exact ⟨rfl, Below.refl _ _⟩

end Go.Proofs.Qxb6602788aMods
