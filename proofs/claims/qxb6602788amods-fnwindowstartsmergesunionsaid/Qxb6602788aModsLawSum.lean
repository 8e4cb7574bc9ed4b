/-
  THE WALKS over FnSumExactOnSmallIntegers (8) and FnSumOfNonNegativesIsAtLeastEach (9).
-/
import Derived.Test.Qxb6602788aModsInts
namespace Go.Proofs.Qxb6602788aMods
open Go.RowKit
attribute [local go_sem] run_store_float

/-- A law's own post: true, and nothing old has turned. -/
def LawPost (w : World) (e : Ending) (w' : World) : Prop := e = .returned (.bool true) ∧ Below w.heap.size w w'

theorem take_snoc_getD (fs : List Nat) (k : Nat) (h : k < fs.length) : fs.take (k + 1) = fs.take k ++ [fs.getD k 0] := by
  rw [List.take_succ_eq_append_getElem h]; simp [List.getD, h]

theorem below_drewN {B : Nat} {w w' : World} (h : Below B w w') (m : Nat) : Below B w (w'.drewN m) := ⟨h.os, h.tape, h.output, h.size, h.block⟩

set_option maxHeartbeats 2000000 in
theorem law8 (a : Option Addr) (n c : Nat) (fs : List Nat) (w : World) (hn : n ≤ maxLen) (hr : FRow w a n fs) (h0 : a = none → n = 0 ∧ c = 0) :
    Calls Trym.prog 8 #[.slice a n c] w (LawPost w) := by
  have hn' : n ≤ maxLen := hn
  unfold maxLen at hn
  by_cases h4 : n ≤ 4096
  · have hd : decide (n ≤ 1048576) = true := by simp; omega
    have h4' : ¬ ((4096 : Int) < (n : Int)) := by omega
    go_enter Trym.func8, Trym.ntmps8
    go_wp2_with (first | (go_at_call 24; refine (bytes24 _ _ _ _ hn').mono ?_; rintro e w' ⟨rfl, rfl⟩) | (go_at_call 25; refine (copy25 _ _ _ fs _ (by omega) hr h0).mono ?_; rintro e w1 ⟨a', c', rfl, hr1, hb1⟩))
    obtain ⟨hl, hr1⟩ := hr1
    go_loop [3, 4] (fun i v => ∃ k : Nat, k ≤ n ∧ i = .int .i64 k ∧ ∀ j, j < k → Good (fs.getD j 0)) (fun i _ => n - (intOf i).toNat)
    case atStart => exact ⟨0, Nat.zero_le _, rfl, fun j hj => absurd hj (Nat.not_lt_zero _)⟩
    case round =>
      obtain ⟨k, hk, rfl, hgood⟩ := hrel
      have HG : Hid _ := hgood
      clear hgood
      by_cases hlt : k < n
      · obtain ⟨b, off, rfl, hc⟩ := hr1.resolve_left (by omega)
        have hck := hc k hlt
        have HC : Hid _ := hc
        clear hc
        generalize hx : fs.getD k 0 = x at *
        have HX : Hid _ := hx
        clear hx
        cases h1 : ((FloatKind.f64.format.order x 14010698440749613056 == some .gt) || (FloatKind.f64.format.order x 14010698440749613056 == some .eq)) with
        | false =>
          go_wp2
          go_ret
          exact ⟨rfl, hb1⟩
        | true =>
          cases h2 : ((FloatKind.f64.format.order x 4787326403894837248 == some .lt) || (FloatKind.f64.format.order x 4787326403894837248 == some .eq)) with
          | false =>
            go_wp2
            go_ret
            exact ⟨rfl, hb1⟩
          | true =>
            obtain ⟨m, hm, hi, fx⟩ := range_ok (x := x) h1 h2
            have hrun := fun (w : World) => run_convert_float_int (P := Trym.prog) w 29 2 .f64 .i64 x m (by rw [Trym.underlying29]; rfl) Trym.underlying2 hi
            cases h3 : (FloatKind.f64.format.order (floatOfInt .f64 m) x == some .eq) with
            | false =>
              have h3' : (FloatKind.f64.format.order (floatOfInt .f64 m) x != some .eq) = true := by rw [bne, h3]; rfl
              have HI : Hid _ := hi
              clear hi
              go_wp2
              go_ret
              exact ⟨rfl, hb1⟩
            | true =>
              have h3' : (FloatKind.f64.format.order (floatOfInt .f64 m) x != some .eq) = false := by rw [bne, h3]; rfl
              have hg : Good x := ⟨m, hm, hi, whole_ok hm fx h3⟩
              have HI : Hid _ := hi
              have HGx : Hid _ := hg
              clear hi hg
              go_wp2
              go_round
              case rel =>
                refine ⟨k + 1, by omega, by go_num, ?_⟩
                intro j hj
                by_cases e : j = k
                · subst e; rw [HX.out]; exact HGx.out
                · exact HG.out j (by omega)
              case measure => simp [intOf]; omega
      · have hall : ∀ x ∈ fs, Good x := by
          intro x hx
          obtain ⟨j, hj, rfl⟩ := List.getElem_of_mem hx
          have := HG.out j (by omega)
          simpa [List.getD, hj] using this
        have HA : Hid _ := hall
        clear hall HG
        go_wp2
        go_loop [5, 6] (fun t i => ∃ k : Nat, k ≤ n ∧ i = .int .i64 k ∧ t = .int .i64 (tot (fs.take k))) (fun _ i => n - (intOf i).toNat)
        case atStart => exact ⟨0, Nat.zero_le _, rfl, rfl⟩
        case round =>
          obtain ⟨k', hk', rfl, rfl⟩ := hrel
          have hb := tot_bound (fs.take k') (fun x hx => HA.out x (List.mem_of_mem_take hx))
          have hlen : (fs.take k').length ≤ k' := List.length_take_le _ _
          by_cases hlt' : k' < n
          · obtain ⟨b, off, rfl, hc⟩ := hr1.resolve_left (by omega)
            have hck := hc k' hlt'
            have hts := tot_snoc (fs.take k') (fs.getD k' 0)
            rw [← take_snoc_getD fs k' (by omega)] at hts
            have HTS : Hid _ := hts
            clear hts hc
            obtain ⟨g1, g2, _⟩ := (HA.out (fs.getD k' 0) (by simp [List.getD, show k' < fs.length by omega])).iv
            have b1 : -4503599627370496 ≤ tot (fs.take k') := by omega
            have b2 : tot (fs.take k') ≤ 4503599627370496 := by omega
            clear hb
            generalize fs.getD k' 0 = x at *
            have b3 : -1099511627776 ≤ iv x := by omega
            have b4 : iv x ≤ 1099511627776 := by omega
            have hrun := fun (w : World) => run_convert_float_int (P := Trym.prog) w 29 2 .f64 .i64 x (iv x) (by rw [Trym.underlying29]; rfl) Trym.underlying2 g2
            clear g1 g2
            go_wp2
            go_round
            case rel => exact ⟨k' + 1, by omega, by go_num, by rw [HTS.out]⟩
            case measure => simp [intOf]; omega
          · have e : fs.take k' = fs := List.take_of_length_le (by omega)
            rw [e]
            clear hb hlen e
            go_wp2_with (go_at_call 22; refine (zzsum22 _ _ _ fs _ hn' ⟨hl, hr1⟩).mono ?_; rintro e w' ⟨r, m, rfl, hs, rfl⟩)
            have hfin : (FloatKind.f64.format.order r (floatOfInt .f64 (tot fs)) == some .eq) = true := tot_eq (by omega) HA.out (sum_exact0 fs r (by omega) HA.out hs)
            go_ret
            exact ⟨by simp [hfin], below_drewN hb1 _⟩
  · have h4' : ((4096 : Int) < (n : Int)) := by omega
    by_cases hd : n ≤ 1048576
    all_goals
      go_enter Trym.func8, Trym.ntmps8
      go_wp2_with (go_at_call 24; refine (bytes24 _ _ _ _ hn').mono ?_; rintro e w' ⟨rfl, rfl⟩)
      go_ret
      exact ⟨rfl, Below.refl _ _⟩

set_option maxHeartbeats 400000 in
theorem bytes26 (a : Option Addr) (n c : Nat) (w : World) (hn : n ≤ maxLen) :
    Calls Trym.prog 26 #[.slice a n c] w fun e w' => e = .returned (.bool (decide (n ≤ 1048576))) ∧ w' = w := by
  unfold maxLen at hn
  by_cases h : n ≤ 1048576
  · have h' : ¬ ((1048576 : Int) < (n : Int)) := by omega
    go_enter Trym.func26, Trym.ntmps26
    go_wp2
    go_ret
    exact ⟨by simp, rfl⟩
  · have h' : ((1048576 : Int) < (n : Int)) := by omega
    go_enter Trym.func26, Trym.ntmps26
    go_wp2
    go_ret
    exact ⟨by simp [h], rfl⟩

set_option maxHeartbeats 2000000 in
theorem law9 (a : Option Addr) (n c : Nat) (fs : List Nat) (w : World) (hn : n ≤ maxLen) (hr : FRow w a n fs) (h0 : a = none → n = 0 ∧ c = 0) :
    Calls Trym.prog 9 #[.slice a n c] w (LawPost w) := by
  have hn' : n ≤ maxLen := hn
  unfold maxLen at hn
  by_cases h4 : n ≤ 65536
  · have hd : decide (n ≤ 1048576) = true := by simp; omega
    have h4' : ¬ ((65536 : Int) < (n : Int)) := by omega
    have HR : Hid _ := hr
    obtain ⟨hl, hr⟩ := hr
    go_enter Trym.func9, Trym.ntmps9
    go_wp2_with (go_at_call 26; refine (bytes26 _ _ _ _ hn').mono ?_; rintro e w' ⟨rfl, rfl⟩)
    go_loop [3] (fun i => ∃ k : Nat, k ≤ n ∧ i = .int .i64 k ∧ ∀ j, j < k → NonNeg (fs.getD j 0)) (fun i => n - (intOf i).toNat)
    case atStart => exact ⟨0, Nat.zero_le _, rfl, fun j hj => absurd hj (Nat.not_lt_zero _)⟩
    case round =>
      obtain ⟨k, hk, rfl, hgood⟩ := hrel
      have HG : Hid _ := hgood
      clear hgood
      by_cases hlt : k < n
      · obtain ⟨b, off, rfl, hc⟩ := hr.resolve_left (by omega)
        have hck := hc k hlt
        have HC : Hid _ := hc
        clear hc
        generalize hx : fs.getD k 0 = x at *
        have HX : Hid _ := hx
        clear hx
        cases h1 : ((FloatKind.f64.format.order x 0 == some .gt) || (FloatKind.f64.format.order x 0 == some .eq)) with
        | false =>
          go_wp2
          go_ret
          exact ⟨rfl, Below.refl _ _⟩
        | true =>
          have hg : NonNeg x := nonneg_of_check h1
          have HGx : Hid _ := hg
          clear hg
          go_wp2
          go_round
          case rel =>
            refine ⟨k + 1, by omega, by go_num, ?_⟩
            intro j hj
            by_cases e : j = k
            · subst e; rw [HX.out]; exact HGx.out
            · exact HG.out j (by omega)
          case measure => simp [intOf]; omega
      · have hall : ∀ x ∈ fs, NonNeg x := by
          intro x hx
          obtain ⟨j, hj, rfl⟩ := List.getElem_of_mem hx
          have := HG.out j (by omega)
          simpa [List.getD, hj] using this
        have HA : Hid _ := hall
        clear hall HG
        go_wp2_with (go_at_call 25; refine (copy25 _ _ _ fs _ (by omega) HR.out h0).mono ?_; rintro e w1 ⟨a', c', rfl, hr1, hb1⟩)
        refine (zzsum22 _ _ _ fs _ hn' hr1).mono ?_
        rintro e w' ⟨r, m, rfl, hs, rfl⟩
        obtain ⟨s1, s2, s3⟩ := sum_nonneg fs 0 r zero_nonneg HA.out hs
        have hfin : ((FloatKind.f64.format.order r 0 == some .gt) || (FloatKind.f64.format.order r 0 == some .eq)) = true := check_of_nonneg s1
        have S1 : Hid _ := s1
        have S3 : Hid _ := s3
        clear s1 s2 s3 hs
        obtain ⟨_, hr1⟩ := hr1
        go_wp2
        go_loop [5] (fun i => ∃ k : Nat, k ≤ n ∧ i = .int .i64 k) (fun i => n - (intOf i).toNat)
        case atStart => exact ⟨0, Nat.zero_le _, rfl⟩
        case round =>
          obtain ⟨k', hk', rfl⟩ := hrel
          by_cases hlt' : k' < n
          · obtain ⟨b, off, rfl, hc⟩ := hr1.resolve_left (by omega)
            have hck := hc k' hlt'
            clear hc
            have hmem : fs.getD k' 0 ∈ fs := by simp [List.getD, show k' < fs.length by omega]
            have hge : ((FloatKind.f64.format.order r (fs.getD k' 0) == some .gt) || (FloatKind.f64.format.order r (fs.getD k' 0) == some .eq)) = true := ge_of_key S1.out.1 (HA.out _ hmem).1 (S3.out _ hmem)
            clear hmem
            generalize fs.getD k' 0 = x at *
            go_wp2
            go_round
            case rel => exact ⟨k' + 1, by omega, by go_num⟩
            case measure => simp [intOf]; omega
          · go_wp2
            go_ret
            exact ⟨rfl, below_drewN hb1 _⟩
  · have h4' : ((65536 : Int) < (n : Int)) := by omega
    by_cases hd : n ≤ 1048576
    all_goals
      go_enter Trym.func9, Trym.ntmps9
      go_wp2_with (go_at_call 26; refine (bytes26 _ _ _ _ hn').mono ?_; rintro e w' ⟨rfl, rfl⟩)
      go_ret
      exact ⟨rfl, Below.refl _ _⟩

end Go.Proofs.Qxb6602788aMods
