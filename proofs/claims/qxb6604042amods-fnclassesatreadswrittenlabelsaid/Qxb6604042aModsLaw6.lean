/-
  THE WALK over FnClassesAtReadsWrittenLabel (6).
-/
import Derived.Test.Qxb6604042aModsMem
namespace Go.Proofs.Qxb6604042aMods
open Go.RowKit

set_option maxHeartbeats 1000000 in
theorem bytes16 (a b c : ByteArray) (w : World) (ha : a.size ≤ maxLen) (hb : b.size ≤ maxLen) (hc : c.size ≤ maxLen) :
    Calls Trym.prog 16 #[.string a, .string b, .string c] w fun e w' => e = .returned (.bool (decide (a.size + b.size + c.size ≤ 1048576))) ∧ w' = w := by
  unfold maxLen at ha hb hc
  by_cases h1 : a.size ≤ 1048576
  · have k1 : ¬ ((1048576 : Int) < (a.size : Int)) := by omega
    by_cases h2 : b.size ≤ 1048576
    · have k2 : ¬ ((1048576 : Int) < (b.size : Int)) := by omega
      by_cases h3 : a.size + b.size ≤ 1048576
      · have k3 : ¬ ((1048576 : Int) < (a.size : Int) + (b.size : Int)) := by omega
        by_cases h4 : c.size ≤ 1048576
        · have k4 : ¬ ((1048576 : Int) < (c.size : Int)) := by omega
          by_cases h5 : a.size + b.size + c.size ≤ 1048576
          · have k5 : ¬ ((1048576 : Int) < (a.size : Int) + (b.size : Int) + (c.size : Int)) := by omega
            have HF := hidden (decide_eq_true h5)
            go_enter Trym.func16, Trym.ntmps16
            go_wp2
            go_ret
            exact ⟨by first | rfl | (rw [HF.out]; rfl), rfl⟩
          · have k5 : ((1048576 : Int) < (a.size : Int) + (b.size : Int) + (c.size : Int)) := by omega
            have HF := hidden (decide_eq_false h5)
            go_enter Trym.func16, Trym.ntmps16
            go_wp2
            go_ret
            exact ⟨by first | rfl | (rw [HF.out]; rfl), rfl⟩
        · have k4 : ((1048576 : Int) < (c.size : Int)) := by omega
          have h5 : ¬ (a.size + b.size + c.size ≤ 1048576) := by omega
          have HF := hidden (decide_eq_false h5)
          go_enter Trym.func16, Trym.ntmps16
          go_wp2
          go_ret
          exact ⟨by first | rfl | (rw [HF.out]; rfl), rfl⟩
      · have k3 : ((1048576 : Int) < (a.size : Int) + (b.size : Int)) := by omega
        have h5 : ¬ (a.size + b.size + c.size ≤ 1048576) := by omega
        have HF := hidden (decide_eq_false h5)
        go_enter Trym.func16, Trym.ntmps16
        go_wp2
        go_ret
        exact ⟨by first | rfl | (rw [HF.out]; rfl), rfl⟩
    · have k2 : ((1048576 : Int) < (b.size : Int)) := by omega
      have h5 : ¬ (a.size + b.size + c.size ≤ 1048576) := by omega
      have HF := hidden (decide_eq_false h5)
      go_enter Trym.func16, Trym.ntmps16
      go_wp2
      go_ret
      exact ⟨by first | rfl | (rw [HF.out]; rfl), rfl⟩
  · have k1 : ((1048576 : Int) < (a.size : Int)) := by omega
    have h5 : ¬ (a.size + b.size + c.size ≤ 1048576) := by omega
    have HF := hidden (decide_eq_false h5)
    go_enter Trym.func16, Trym.ntmps16
    go_wp2
    go_ret
    exact ⟨by first | rfl | (rw [HF.out]; rfl), rfl⟩

/-- The law's own post. -/
def Law6Post (w : World) (e : Ending) (w' : World) : Prop := e = .returned (.bool true) ∧ Below w.heap.size w w'

set_option maxRecDepth 100000 in
set_option maxHeartbeats 2000000 in
theorem law6_early (a b c : ByteArray) (w : World) (ha : a.size ≤ maxLen) (hb : b.size ≤ maxLen) (hc : c.size ≤ maxLen) (h : ¬ (a.size + b.size + c.size ≤ 1048576 ∧ a.size + c.size + 20 * b.size ≤ 1048576 ∧ 0 < b.size)) :
    Calls Trym.prog 6 #[.string a, .string b, .string c] w (Law6Post w) := by
  by_cases h1 : a.size + b.size + c.size ≤ 1048576
  · have hd := decide_eq_true h1
    have k1 : ¬ ((1048576 : Int) < (a.size : Int)) := by omega
    have k2 : ¬ ((1048576 : Int) < (b.size : Int)) := by omega
    have k3 : ¬ ((1048576 : Int) < (c.size : Int)) := by omega
    have k4 : ¬ ((1048576 : Int) < (a.size : Int) + (b.size : Int) + (c.size : Int)) := by omega
    by_cases h2 : a.size + c.size + 20 * b.size ≤ 1048576
    · have k5 : ¬ ((1048576 : Int) < (a.size : Int) + (c.size : Int) + 20 * (b.size : Int)) := by omega
      have k6 : ((b.size : Int) == 0) = true := by
        have e : b.size = 0 := by omega
        rw [e]; rfl
      clear h
      go_enter Trym.func6, Trym.ntmps6
      go_wp2_with fail
      refine (bytes16 _ _ _ _ ha hb hc).mono ?_
      rintro e w' ⟨rfl, hw⟩
      obtain rfl := hw.symm
      rw [hd]
      clear hw hd
      go_wp2
      go_ret
      exact ⟨rfl, Below.refl _ _⟩
    · have k5 : ((1048576 : Int) < (a.size : Int) + (c.size : Int) + 20 * (b.size : Int)) := by omega
      clear h
      go_enter Trym.func6, Trym.ntmps6
      go_wp2_with fail
      refine (bytes16 _ _ _ _ ha hb hc).mono ?_
      rintro e w' ⟨rfl, hw⟩
      obtain rfl := hw.symm
      rw [hd]
      clear hw hd
      go_wp2
      go_ret
      exact ⟨rfl, Below.refl _ _⟩
  · have hd := decide_eq_false h1
    clear h h1
    go_enter Trym.func6, Trym.ntmps6
    go_wp2_with fail
    refine (bytes16 _ _ _ _ ha hb hc).mono ?_
    rintro e w' ⟨rfl, hw⟩
    obtain rfl := hw.symm
    rw [hd]
    clear hw hd
    go_wp2
    go_ret
    exact ⟨rfl, Below.refl _ _⟩

end Go.Proofs.Qxb6604042aMods
