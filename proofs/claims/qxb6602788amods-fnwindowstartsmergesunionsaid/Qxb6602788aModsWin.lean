/-
  THE WALKS over toReplayWindows, nondecreasingStarts, negSign, sameFloat, sameStarts.
-/
import Derived.Test.Qxb6602788aModsMerge
import Derived.Test.Qxb6602788aModsOpenPairs
import Derived.Deep.QuietTactic
import Derived.BigQuiet
import Derived.RegionTactic
import Derived.BigRegion
import Derived.Deep.RegionHeld3
namespace Go.Proofs.Qxb6602788aMods
open Go.RowKit
attribute [local go_sem] run_store_float

theorem Trym.info47 : (Trym.prog.info? 47).map (fun i => (i.zero, i.size, i.bytes)) = some (some (.agg #[.float .f64 0, .int .i64 0]), 2, 16) := by kernel_rfl

theorem made_wins (n : Nat) (ps : List (Nat × Int)) : (madeCells #[.float .f64 0, .int .i64 0] (n * 2)).toList = flat2 cs ca (pre (0, 0) n 0 ps) := by
  have e : (#[.float .f64 0, .int .i64 0] : Array Value) = #[cs (0, 0), ca (0, 0)] := rfl
  rw [e, flat2_replicate, pre_zero]

/-! ### toReplayWindows -/
def GivesWins (w : World) (nil : Bool) (n : Nat) (ps : List (Nat × Int)) (e : Ending) (w' : World) : Prop :=
  ∃ a' c', e = .returned (.slice a' n c') ∧ WRow w' a' n ps ∧ (a' = none → n = 0 ∧ c' = 0) ∧ Below w.heap.size w w' ∧ (nil = true → a' = none)

set_option maxHeartbeats 2000000 in
theorem wins13 (a : Option Addr) (n c : Nat) (ps : List (Nat × Int)) (w : World) (hn : n ≤ 1000000) (hr : WRow w a n ps) (h0 : a = none → n = 0 ∧ c = 0) :
    Calls Trym.prog 13 #[.slice a n c] w (GivesWins w a.isNone n ps) := by
  have q1 := fun (w : World) (a : Option Addr) (n c : Nat) => Lib.run_eql_slice_nil (P := Trym.prog) w 22 34 a n c 0 0 Trym.underlying22
  obtain ⟨i0, hi, hz0, hz1, hz2⟩ := info_parts Trym.info47
  have hby : i0.bytes * n ≤ 281474976710656 := by rw [hz2]; omega
  cases a with
  | none =>
    obtain ⟨rfl, rfl⟩ := h0 rfl
    go_enter Trym.func13, Trym.ntmps13
    go_wp2
    go_ret
    exact ⟨none, 0, rfl, hr, fun _ => ⟨rfl, rfl⟩, Below.refl _ _, fun _ => rfl⟩
  | some x =>
    obtain ⟨hl, hr⟩ := hr
    go_enter Trym.func13, Trym.ntmps13
    go_wp2_with (at_make; refine wpList_make_full _ rfl _ _ 27 rfl w.heap.size 47 i0 (.agg #[.float .f64 0, .int .i64 0]) 2 Trym.underlying27 hi hz0 hz1 _ _ _ _ n rfl rfl rfl rfl hby (by unfold maxLen; omega) (Nat.le_refl _) ?_)
    intro w1 hown hgrow
    have hb1 : Below w.heap.size w w1 := (Below.refl _ _).grown hgrow (Nat.le_refl _) (by intro k hk; cases hk)
    rw [made_wins n ps] at hown
    have hown' := hown
    clear hown hgrow
    go_wp2
    go_loopw [4] (fun i wr => ∃ k : Nat, k ≤ n ∧ i = .int .i64 k ∧ wr.ownsRow w.heap.size 47 2 (.slice (some ⟨w.heap.size, 0, none⟩) n n) n (flat2 cs ca (pre (0, 0) n k ps)) ∧ Below w.heap.size w wr) (fun i _ => n - (intOf i).toNat)
    case atStart => exact ⟨0, Nat.zero_le _, rfl, hown', hb1⟩
    case round =>
      obtain ⟨k, hk, rfl, hown, hb⟩ := hrel
      by_cases hlt : k < n
      · have hkl : k < ps.length := by omega
        obtain ⟨b, off, hx, hc⟩ := hr.resolve_left (by omega)
        obtain rfl := Option.some.inj hx
        have r0 : wr.cell? ⟨b, off + k * 2, none⟩ = some (.float .f64 ps[k].1) := cell_later hb (hc k hkl).1
        have r1 : wr.cell? ⟨b, off + k * 2 + 1, none⟩ = some (.int .i64 ps[k].2) := cell_later hb (hc k hkl).2
        have hkp : k < (pre (0, 0) n k ps).length := by rw [pre_length]; exact hlt
        have o0 : wr.cell? ⟨w.heap.size, k * 2, none⟩ = some (.float .f64 (pre (0, 0) n k ps)[k].1) := by rw [hown.cellAt (k * 2) (by omega), flat2_get0 cs ca _ k hkp]; rfl
        have o1 : wr.cell? ⟨w.heap.size, k * 2 + 1, none⟩ = some (.int .i64 (pre (0, 0) n k ps)[k].2) := by rw [hown.cellAt (k * 2 + 1) (by omega), flat2_get1 cs ca _ k hkp]; rfl
        have f0 := hown.frozenAt (k * 2)
        have f1 := hown.frozenAt (k * 2 + 1)
        have hst := ((hown.stored (k * 2) (cs ps[k])).1.stored (k * 2 + 1) (ca ps[k])).1
        rw [flat2_set, pre_set (0, 0) n k ps hkl] at hst
        have hbb : Below w.heap.size w ((wr.setCell ⟨w.heap.size, k * 2, none⟩ (cs ps[k])).setCell ⟨w.heap.size, k * 2 + 1, none⟩ (ca ps[k])) := (hb.setCell (Nat.le_refl _) _).setCell (Nat.le_refl _) _
        have H1 : Hid _ := hst
        have H2 : Hid _ := hbb
        clear hst hbb hown hb hown' hb1 hc hx
        generalize ps[k] = q at *
        generalize (pre (0, 0) n k ps)[k] = q' at *
        obtain ⟨qi, qt⟩ := q
        obtain ⟨qi', qt'⟩ := q'
        go_wp2
        go_region
        go_wp2
        go_roundw
        case rel => exact ⟨k + 1, by omega, by go_num, H1.out, H2.out.drew⟩
        case measure => simp [intOf]; omega
      · have hk' : k = n := by omega
        subst hk'
        rw [pre_all (0, 0) k ps hl] at hown
        have HF : Hid (WRow wr (some ⟨w.heap.size, 0, none⟩) k ps) := PRow.of_own hl hown
        have HB' : Hid _ := hb
        clear hown hb hown' hb1
        go_wp2
        go_ret
        exact ⟨some ⟨w.heap.size, 0, none⟩, k, rfl, HF.out, (fun h => by cases h), HB'.out, (fun h => by cases h)⟩

/-! ### nondecreasingStarts -/
theorem ne_self_num' {x : Nat} (h : Fl.Num x) : (FloatKind.f64.format.order x x != some .eq) = false := by
  have e : FloatKind.f64.format.order x x = some (compare (Fl.key x) (Fl.key x)) := Fl.order_num x x h h
  rw [e]; simp [bne]
theorem ne_self_nan' {x : Nat} (h : ¬ Fl.Num x) : (FloatKind.f64.format.order x x != some .eq) = true := by
  have e : FloatKind.f64.format.order x x = none := Fl.order_nan_left x x h
  rw [e]; rfl
theorem leq_key {x y : Nat} (hx : Fl.Num x) (hy : Fl.Num y) : ((FloatKind.f64.format.order x y == some .lt) || (FloatKind.f64.format.order x y == some .eq)) = decide (Fl.key x ≤ Fl.key y) := by
  have h1 := ltB_num hx hy
  have h2 := eqB_num hx hy
  unfold ltB at h1
  unfold eqB at h2
  rw [h1, h2, Bool.eq_iff_iff]
  simp; omega

/-- What nondecreasingStarts says. -/
def SortPost (w : World) (ps : List (Nat × Int)) (e : Ending) (w' : World) : Prop := ∃ b : Bool, e = .returned (.bool b) ∧ w' = w ∧ (b = true → Srt (ps.map (·.1)))

set_option maxHeartbeats 1000000 in
theorem sort11 (a : Option Addr) (n c : Nat) (ps : List (Nat × Int)) (w : World) (hn : n ≤ 1000000) (hr : WRow w a n ps) :
    Calls Trym.prog 11 #[.slice a n c] w (SortPost w ps) := by
  obtain ⟨hl, hr⟩ := hr
  go_enter Trym.func11, Trym.ntmps11
  go_wp2
  go_loop [3, 4] (fun i v => ∃ k : Nat, k ≤ n ∧ i = .int .i64 k ∧ ∀ j (h : j < ps.length), j < k → Fl.Num ps[j].1 ∧ (∀ h0 : 0 < j, Fl.key ps[j - 1].1 ≤ Fl.key ps[j].1)) (fun i _ => n - (intOf i).toNat)
  case atStart => exact ⟨0, Nat.zero_le _, rfl, fun j _ hj => absurd hj (Nat.not_lt_zero _)⟩
  case round =>
    obtain ⟨k, hk, rfl, hg⟩ := hrel
    have HG : Hid _ := hg
    clear hg
    by_cases hlt : k < n
    · have hkl : k < ps.length := by omega
      obtain ⟨b, off, rfl, hc⟩ := hr.resolve_left (by omega)
      have hck : w.cell? ⟨b, off + k * 2, none⟩ = some (.float .f64 ps[k].1) := (hc k hkl).1
      by_cases hnum : Fl.Num ps[k].1
      · have h1 := ne_self_num' hnum
        by_cases hk0 : k = 0
        · subst hk0
          have hck0 : w.cell? ⟨b, off, none⟩ = some (.float .f64 ps[0].1) := by simpa using hck
          clear hck
          have HN : Hid _ := hnum
          clear hc hnum
          generalize hx : ps[0].1 = x at *
          have HX : Hid _ := hx
          clear hx
          go_wp2
          go_round
          case rel =>
            refine ⟨1, by omega, by go_num, ?_⟩
            intro j hj h1
            obtain rfl : j = 0 := by omega
            exact ⟨by rw [HX.out]; exact HN.out, fun h0 => absurd h0 (Nat.lt_irrefl _)⟩
          case measure => simp [intOf]; omega
        · obtain ⟨q, rfl⟩ : ∃ q, k = q + 1 := ⟨k - 1, by omega⟩
          have hql : q < ps.length := by omega
          have hcq : w.cell? ⟨b, off + q * 2, none⟩ = some (.float .f64 ps[q].1) := (hc q hql).1
          have hnq := (HG.out q hql (by omega)).1
          have hle := leq_key hnq hnum
          have hq0 : (0 : Int) < (q : Int) + 1 := by omega
          have hq1 : (q : Int) < (n : Int) := by omega
          clear hc
          by_cases hkey : Fl.key ps[q].1 ≤ Fl.key ps[q + 1].1
          · rw [decide_eq_true hkey] at hle
            have HK : Hid _ := hkey
            have HN : Hid _ := hnum
            clear hkey hnum hnq
            generalize hx : ps[q].1 = x at *
            generalize hy : ps[q + 1].1 = y at *
            have HX : Hid _ := hx
            have HY : Hid _ := hy
            clear hx hy
            go_wp2
            go_round
            case rel =>
              refine ⟨q + 1 + 1, by omega, by go_num, ?_⟩
              intro j hj h1
              by_cases e : j = q + 1
              · subst e
                refine ⟨by rw [HY.out]; exact HN.out, fun h0 => ?_⟩
                simp only [Nat.add_sub_cancel]
                rw [HX.out, HY.out]; exact HK.out
              · exact HG.out j hj (by omega)
            case measure => simp [intOf]; omega
          · rw [decide_eq_false hkey] at hle
            clear hkey hnum hnq
            generalize ps[q].1 = x at *
            generalize ps[q + 1].1 = y at *
            go_wp2
            go_ret
            exact ⟨false, rfl, rfl, fun h => by cases h⟩
      · have h1 := ne_self_nan' hnum
        clear hc hnum
        generalize ps[k].1 = x at *
        go_wp2
        go_ret
        exact ⟨false, rfl, rfl, fun h => by cases h⟩
    · go_wp2
      go_ret
      refine ⟨true, rfl, rfl, fun _ => srt_of_steps ?_⟩
      intro i hi
      have hi' : i < ps.length := by simpa using hi
      have := HG.out i hi' (by omega)
      simpa using this

/-! ### negSign, sameFloat -/
def oneF : Nat := 4607182418800017408
def nsg (x : Nat) : Bool := ltB x 0 || (eqB x 0 && ltB ((Ieee.double.div oneF x).getD 0) 0)

theorem div_zero {x : Nat} (h : eqB x 0 = true) : ∃ r, Ieee.double.div oneF x = some r := by
  obtain ⟨hx, _, hk⟩ := eq_key (x := x) (y := 0) h
  rw [key_zero] at hk
  have hr : Fl.rg x = 0 := by unfold Fl.key Fl.sg at hk; split at hk <;> omega
  have hfx : Fl.Fin x := by unfold Fl.Fin; rw [hr]; unfold Fl.inf; omega
  obtain ⟨m, k, rx, ux⟩ := Fl.read_fin x hfx
  rw [hr, Fl.uv_zero] at ux
  have hm : m = 0 := by
    rcases Nat.mul_eq_zero.1 ux with h | h
    · exact h
    · have := Nat.two_pow_pos k; omega
  have hone : Fl.Fin oneF := by unfold Fl.Fin; decide +kernel
  obtain ⟨m1, k1, r1, u1⟩ := Fl.read_fin oneF hone
  have hm1 : m1 ≠ 0 := by
    intro e
    rw [e, Nat.zero_mul] at u1
    have : Fl.rg oneF = 0 := Fl.uv_inj (by rw [Fl.uv_zero]; exact u1.symm)
    have h2 : Fl.rg oneF ≠ 0 := by decide +kernel
    exact h2 this
  unfold Ieee.Format.div
  rw [rx, r1, hm]
  simp [Ieee.Datum.quotient, hm1]

theorem neg28 (x : Nat) (w : World) : Calls Trym.prog 28 #[.float .f64 x] w fun e w' => e = .returned (.bool (nsg x)) ∧ w' = w := by
  cases h1 : ltB x 0 with
  | true =>
    have h1' : (FloatKind.f64.format.order x 0 == some .lt) = true := h1
    go_enter Trym.func28, Trym.ntmps28
    go_wp2
    go_ret
    exact ⟨by simp [nsg, h1], rfl⟩
  | false =>
    have h1' : (FloatKind.f64.format.order x 0 == some .lt) = false := h1
    cases h2 : eqB x 0 with
    | true =>
      have h2' : (FloatKind.f64.format.order x 0 == some .eq) = true := h2
      obtain ⟨r, hr⟩ := div_zero h2
      have hrun := fun (w : World) => run_float_arith (P := Trym.prog) w .quo 29 .f64 4607182418800017408 x r hr
      have HF : Hid (nsg x = (FloatKind.f64.format.order r 0 == some .lt)) := by unfold nsg Hid; rw [h1, h2, hr]; simp [ltB]
      clear hr h1 h2
      go_enter Trym.func28, Trym.ntmps28
      go_wp2
      go_ret
      exact ⟨by rw [HF.out]; rfl, rfl⟩
    | false =>
      have h2' : (FloatKind.f64.format.order x 0 == some .eq) = false := h2
      go_enter Trym.func28, Trym.ntmps28
      go_wp2
      go_ret
      exact ⟨by simp [nsg, h1, h2], rfl⟩

theorem float15 (x : Nat) (w : World) : Calls Trym.prog 15 #[.float .f64 x, .float .f64 x] w fun e w' => e = .returned (.bool true) ∧ w' = w := by
  by_cases h : Fl.Num x
  · have n1 := ne_self_num' h
    have n2 : (FloatKind.f64.format.order x x == some .eq) = true := by
      have := eqB_num h h
      simpa [eqB] using this
    clear h
    go_enter Trym.func15, Trym.ntmps15
    go_wp2_with (go_at_call 28; refine (neg28 _ _).mono ?_; rintro e w' ⟨rfl, hw⟩; obtain rfl := hw.symm; clear hw)
    go_ret
    exact ⟨by simp, rfl⟩
  · have n1 := ne_self_nan' h
    clear h
    go_enter Trym.func15, Trym.ntmps15
    go_wp2
    go_ret
    exact ⟨rfl, rfl⟩

/-! ### sameStarts -/
set_option maxHeartbeats 1000000 in
theorem starts19 (a1 : Option Addr) (c1 : Nat) (a : Option Addr) (n c : Nat) (ps : List (Nat × Int)) (w : World) (hn : n ≤ 1000000) (hf : FRow w a1 n (ps.map (·.1))) (hr : WRow w a n ps) :
    Calls Trym.prog 19 #[.slice a1 n c1, .slice a n c] w fun e w' => ∃ m, e = .returned (.bool true) ∧ w' = w.drewN m := by
  obtain ⟨hl, hr⟩ := hr
  obtain ⟨_, hf⟩ := hf
  go_enter Trym.func19, Trym.ntmps19
  go_wp2
  go_loopw [5] (fun i wr => ∃ k m : Nat, k ≤ n ∧ i = .int .i64 k ∧ wr = w.drewN m) (fun i _ => n - (intOf i).toNat)
  case atStart => exact ⟨0, 0, Nat.zero_le _, rfl, rfl⟩
  case round =>
    obtain ⟨k, m, hk, rfl, rfl⟩ := hrel
    by_cases hlt : k < n
    · have hkl : k < ps.length := by omega
      obtain ⟨b, off, rfl, hc⟩ := hr.resolve_left (by omega)
      obtain ⟨b1, off1, rfl, hc1⟩ := hf.resolve_left (by omega)
      have r0 : w.cell? ⟨b, off + k * 2, none⟩ = some (.float .f64 ps[k].1) := (hc k hkl).1
      have r1 : w.cell? ⟨b1, off1 + k, none⟩ = some (.float .f64 ps[k].1) := by
        have := hc1 k hlt
        simpa [List.getD, hkl] using this
      have hi1 : (k : Int) < (n : Int) := by omega
      clear hc hc1
      generalize ps[k].1 = x at *
      go_wp2
      go_region_held3 (fun w' => w'.cell? ⟨b1, off1 + k, none⟩ = some (.float .f64 x) ∧ w'.cell? ⟨b, off + k * 2, none⟩ = some (.float .f64 x)) (go_keep)
        (first | (go_at_call 15; refine (float15 _ _).mono ?_; rintro e' w' ⟨rfl, rfl⟩))
      go_wp2
      go_roundw
      case rel => exact ⟨k + 1, m + 1, by omega, by go_num, rfl⟩
      case measure => simp [intOf]; omega
    · go_wp2
      go_ret
      exact ⟨m, rfl, rfl⟩

end Go.Proofs.Qxb6602788aMods
