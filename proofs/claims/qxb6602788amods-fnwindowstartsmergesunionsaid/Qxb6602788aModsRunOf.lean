/-
  THE WALKS over runOf and zzBytes_FnWindowStartsMergesUnion.
-/
import Derived.Test.Qxb6602788aModsUnion
import Derived.Test.Qxb6602788aModsStarts
namespace Go.Proofs.Qxb6602788aMods
open Go.RowKit

set_option maxHeartbeats 400000 in
theorem bytes10 (a : Option Addr) (n c : Nat) (a2 : Option Addr) (m c2 : Nat) (w : World) (hn : n ≤ maxLen) (hm : m ≤ maxLen) :
    Calls Trym.prog 10 #[.slice a n c, .slice a2 m c2] w fun e w' => e = .returned (.bool (decide (n + m ≤ 1048576))) ∧ w' = w := by
  unfold maxLen at hn hm
  by_cases h1 : n ≤ 1048576
  · have h1' : ¬ ((1048576 : Int) < (n : Int)) := by omega
    by_cases h2 : m ≤ 1048576
    · have h2' : ¬ ((1048576 : Int) < (m : Int)) := by omega
      by_cases h3 : n + m ≤ 1048576
      · have h3' : ¬ ((1048576 : Int) < (n : Int) + (m : Int)) := by omega
        go_enter Trym.func10, Trym.ntmps10
        go_wp2
        go_ret
        exact ⟨by simp, rfl⟩
      · have h3' : ((1048576 : Int) < (n : Int) + (m : Int)) := by omega
        go_enter Trym.func10, Trym.ntmps10
        go_wp2
        go_ret
        exact ⟨by simp, rfl⟩
    · have h2' : ((1048576 : Int) < (m : Int)) := by omega
      have h3 : ¬ (n + m ≤ 1048576) := by omega
      go_enter Trym.func10, Trym.ntmps10
      go_wp2
      go_ret
      exact ⟨by simp, rfl⟩
  · have h1' : ((1048576 : Int) < (n : Int)) := by omega
    have h3 : ¬ (n + m ≤ 1048576) := by omega
    go_enter Trym.func10, Trym.ntmps10
    go_wp2
    go_ret
    exact ⟨by simp [h3], rfl⟩

def firstAt (x r k : Nat) : Int := if x < k ∧ 0 < r then (x : Int) else -1
def countAt (x r k : Nat) : Nat := min k (x + r) - x

def fstOf (x r : Nat) : Int := if 0 < r then (x : Int) else -1
def RunPost (w : World) (x r : Nat) (e : Ending) (w' : World) : Prop := e = .returned (.tuple #[.int .i64 (fstOf x r), .int .i64 (r : Int)]) ∧ w' = w

set_option maxHeartbeats 1000000 in
theorem run14 (a : Option Addr) (n c : Nat) (xs : List (Nat × Int)) (v : Nat) (x r : Nat) (w : World) (hn : n ≤ 4096) (hr : WRow w a n xs) (hxr : x + r ≤ n)
    (he : ∀ i (h : i < xs.length), eqB xs[i].1 v = decide (x ≤ i ∧ i < x + r)) :
    Calls Trym.prog 14 #[.slice a n c, .float .f64 v] w (RunPost w x r) := by
  obtain ⟨hl, hr⟩ := hr
  have HE := hidden he
  clear he
  go_enter Trym.func14, Trym.ntmps14
  go_wp2
  go_loop [6, 7, 8] (fun f q i => ∃ k : Nat, k ≤ n ∧ i = .int .i64 k ∧ f = .int .i64 (firstAt x r k) ∧ q = .int .i64 (countAt x r k)) (fun _ _ i => n - (intOf i).toNat)
  case atStart => exact ⟨0, Nat.zero_le _, rfl, by simp [firstAt], by simp [countAt]⟩
  case round =>
    obtain ⟨k, hk, rfl, rfl, rfl⟩ := hrel
    by_cases hlt : k < n
    · have hkl : k < xs.length := by omega
      obtain ⟨b, off, rfl, hc⟩ := hr.resolve_left (by omega)
      have hck : w.cell? ⟨b, off + k * 2, none⟩ = some (.float .f64 xs[k].1) := (hc k hkl).1
      have hek := HE.out k hkl
      clear hc
      generalize xs[k].1 = y at *
      by_cases hin : x ≤ k ∧ k < x + r
      · rw [decide_eq_true hin] at hek
        have hek' : (FloatKind.f64.format.order y v == some .eq) = true := hek
        have hc1 : countAt x r (k + 1) = countAt x r k + 1 := by unfold countAt; omega
        have hcb : countAt x r k ≤ 4096 := by unfold countAt; omega
        have HC1 := hidden hc1
        clear hek hc1
        by_cases hkx : k = x
        · subst hkx
          have hf0 : firstAt k r k = -1 := by unfold firstAt; rw [if_neg (by omega)]
          have hf1 : firstAt k r (k + 1) = (k : Int) := by unfold firstAt; rw [if_pos (by omega)]
          have HF1 := hidden hf1
          rw [hf0]
          clear hf0 hf1
          generalize countAt k r k = q at *
          go_wp2
          go_round
          case rel => exact ⟨k + 1, by omega, by go_num, by rw [HF1.out], by rw [HC1.out]; go_num⟩
          case measure => simp [intOf]; omega
        · have hf0 : firstAt x r k = (x : Int) := by unfold firstAt; rw [if_pos (by omega)]
          have hf1 : firstAt x r (k + 1) = (x : Int) := by unfold firstAt; rw [if_pos (by omega)]
          have HF1 := hidden hf1
          rw [hf0]
          clear hf0 hf1
          generalize countAt x r k = q at *
          go_wp2
          go_round
          case rel => exact ⟨k + 1, by omega, by go_num, by rw [HF1.out], by rw [HC1.out]; go_num⟩
          case measure => simp [intOf]; omega
      · rw [decide_eq_false hin] at hek
        have hek' : (FloatKind.f64.format.order y v == some .eq) = false := hek
        have hc1 : countAt x r (k + 1) = countAt x r k := by unfold countAt; omega
        have hf1 : firstAt x r (k + 1) = firstAt x r k := by
          unfold firstAt
          by_cases h : x < k ∧ 0 < r
          · rw [if_pos h, if_pos (by omega)]
          · rw [if_neg h, if_neg (by omega)]
        have HC1 := hidden hc1
        have HF1 := hidden hf1
        clear hek hc1 hf1
        generalize countAt x r k = q at *
        generalize firstAt x r k = fv at *
        go_wp2
        go_round
        case rel => exact ⟨k + 1, by omega, by go_num, by rw [HF1.out], by rw [HC1.out]⟩
        case measure => simp [intOf]; omega
    · have e1 : firstAt x r k = fstOf x r := by
        unfold firstAt fstOf
        by_cases h : 0 < r
        · rw [if_pos h, if_pos (by omega)]
        · rw [if_neg h, if_neg (by omega)]
      have e2 : countAt x r k = r := by unfold countAt; omega
      rw [e1, e2]
      clear e1 e2
      generalize hfv : fstOf x r = fv
      have HFV := hidden hfv
      clear hfv
      go_wp2
      go_ret2
      refine ⟨?_, rfl⟩
      rw [HFV.out]; rfl

end Go.Proofs.Qxb6602788aMods
