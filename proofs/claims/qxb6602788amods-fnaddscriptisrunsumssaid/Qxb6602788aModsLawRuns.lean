/-
  THE WALK over FnAddScriptIsRunSums (6).
-/
import Derived.Test.Qxb6602788aModsRuns
import Derived.Test.Qxb6602788aModsLawSum
namespace Go.Proofs.Qxb6602788aMods
open Go.RowKit
attribute [local go_sem] run_store_float

set_option maxHeartbeats 400000 in
theorem bytes20 (a : Option Addr) (n c : Nat) (w : World) (hn : n ≤ maxLen) :
    Calls Trym.prog 20 #[.slice a n c] w fun e w' => e = .returned (.bool (decide (n ≤ 1048576))) ∧ w' = w := by
  unfold maxLen at hn
  by_cases h : n ≤ 1048576
  · have h' : ¬ ((1048576 : Int) < (n : Int)) := by omega
    go_enter Trym.func20, Trym.ntmps20
    go_wp2
    go_ret
    exact ⟨by simp, rfl⟩
  · have h' : ((1048576 : Int) < (n : Int)) := by omega
    go_enter Trym.func20, Trym.ntmps20
    go_wp2
    go_ret
    exact ⟨by simp [h], rfl⟩

/-! ### sameNumber -/
theorem ne_self_num {x : Nat} (h : Fl.Num x) : (FloatKind.f64.format.order x x != some .eq) = false := by
  have e : FloatKind.f64.format.order x x = some (compare (Fl.key x) (Fl.key x)) := Fl.order_num x x h h
  rw [e]; simp [bne]
theorem ne_self_nan {x : Nat} (h : ¬ Fl.Num x) : (FloatKind.f64.format.order x x != some .eq) = true := by
  have e : FloatKind.f64.format.order x x = none := Fl.order_nan_left x x h
  rw [e]; rfl
theorem eq_same {x y : Nat} (hx : Fl.Num x) (hy : Fl.Num y) (h : Fl.key x = Fl.key y) : (FloatKind.f64.format.order x y == some .eq) = true := by
  have e : FloatKind.f64.format.order x y = some (compare (Fl.key x) (Fl.key y)) := Fl.order_num x y hx hy
  rw [e, h]; simp

theorem group_frow {w : World} {base n c g : Nat} {fs : List Nat} (hl : fs.length = n) (h : w.ownsRow base 29 1 (.slice (some ⟨g, 0, none⟩) n c) n (upto n n fs)) : FRow w (some ⟨g, 0, none⟩) n fs := by
  refine ⟨hl, .inr ⟨g, 0, rfl, fun i hi => ?_⟩⟩
  rw [Nat.zero_add, h.cellAt i (by omega), upto_get _ _ _ _ hi, if_pos (by omega)]

theorem same17 (x y : Nat) (w : World) (h : Same x y) :
    Calls Trym.prog 17 #[.float .f64 x, .float .f64 y] w fun e w' => e = .returned (.bool true) ∧ w' = w := by
  rcases h with ⟨hx, hy⟩ | ⟨hx, hy, hk⟩
  · have n1 := ne_self_nan hx
    have n2 := ne_self_nan hy
    clear hx hy
    go_enter Trym.func17, Trym.ntmps17
    go_wp2
    go_ret
    exact ⟨rfl, rfl⟩
  · have n1 := ne_self_num hx
    have n2 := ne_self_num hy
    have n3 := eq_same hx hy hk
    clear hx hy hk
    go_enter Trym.func17, Trym.ntmps17
    go_wp2
    go_ret
    exact ⟨by simp, rfl⟩

/-! ### The end of a run -/
theorem run_end {sc qs : List (Int × Nat)} {s e : Nat} (hr : Runs (sc.drop s) qs) (hs : s < sc.length) (hse : s < e) (hen : e ≤ sc.length)
    (hall : ∀ j (h : j < sc.length), s ≤ j → j < e → sc[j].1 = sc[s].1) (hend : ∀ h : e < sc.length, sc[e].1 ≠ sc[s].1) :
    ∃ t qs', qs = (sc[s].1, t) :: qs' ∧ (∀ r, SumFrom 0 (((sc.drop s).take (e - s)).map (·.2)) r → Same t r) ∧ Runs (sc.drop e) qs' := by
  cases qs with
  | nil =>
    have h0 : sc.drop s = [] := hr
    have := congrArg List.length h0
    simp at this; omega
  | cons q qs =>
    obtain ⟨i, t⟩ := q
    obtain ⟨t0, l, rest, h1, h2, h3, h4, h5⟩ := hr
    have hg : ∀ k, sc[s + k]? = ((i, t0) :: (l ++ rest))[k]? := by
      intro k; rw [← h1, List.getElem?_drop]
    have hs0 : sc[s] = (i, t0) := by
      have := hg 0
      rw [Nat.add_zero, List.getElem?_eq_getElem hs] at this
      simpa using this
    have hlen : sc.length = s + 1 + l.length + rest.length := by
      have := congrArg List.length h1
      simp at this; omega
    have hL : e = s + 1 + l.length := by
      by_cases c1 : e < s + 1 + l.length
      · exfalso
        have he : e < sc.length := by omega
        obtain ⟨d, rfl⟩ : ∃ d, e = s + (d + 1) := ⟨e - s - 1, by omega⟩
        have hd : d < l.length := by omega
        have := hg (d + 1)
        rw [List.getElem?_eq_getElem he, List.getElem?_cons_succ, List.getElem?_append_left hd, List.getElem?_eq_getElem hd] at this
        have this := Option.some.inj this
        have hne := hend he
        rw [this, hs0] at hne
        exact hne (h2 _ (List.getElem_mem hd))
      · by_cases c2 : s + 1 + l.length < e
        · exfalso
          cases hrest : rest with
          | nil => rw [hrest] at hlen; simp at hlen; omega
          | cons y ys =>
            have hj : s + (l.length + 1) < sc.length := by rw [hlen, hrest]; simp; omega
            have := hg (l.length + 1)
            rw [List.getElem?_eq_getElem hj, hrest] at this
            simp at this
            have h6 := hall (s + (l.length + 1)) hj (by omega) (by omega)
            rw [this, hs0] at h6
            exact h3 y ys hrest h6
        · omega
    have hdrop : sc.drop e = rest := by
      have e1 : sc.drop e = (sc.drop s).drop (l.length + 1) := by rw [List.drop_drop]; congr 1; omega
      rw [e1, h1]; simp
    refine ⟨t, qs, by rw [hs0], ?_, by rw [hdrop]; exact h5⟩
    have e2 : (sc.drop s).take (e - s) = (i, t0) :: l := by
      rw [h1, show e - s = l.length + 1 by omega]; simp
    intro r hr
    rw [e2] at hr
    exact same_run h4 hr

set_option maxRecDepth 100000 in
set_option maxHeartbeats 4000000 in
theorem law6 (a : Option Addr) (n c : Nat) (sc : List (Int × Nat)) (w : World) (hn : n ≤ maxLen) (hr : ARow w a n sc) :
    Calls Trym.prog 6 #[.slice a n c] w (LawPost w) := by
  have hn' : n ≤ maxLen := hn
  unfold maxLen at hn
  by_cases h4 : n ≤ 4096
  · have hd : decide (n ≤ 1048576) = true := by simp; omega
    have h4' : ¬ ((4096 : Int) < (n : Int)) := by omega
    have h16 : ¬ ((1048576 : Int) < 16 * (n : Int)) := by omega
    have HR : Hid _ := hr
    obtain ⟨hl, hr⟩ := hr
    obtain ⟨i0, hi, hz0, hz1, hz2⟩ := info_parts Trym.info29
    go_enter Trym.func6, Trym.ntmps6
    go_wp2_with (go_at_call 20; refine (bytes20 _ _ _ _ hn').mono ?_; rintro e w' ⟨rfl, hw⟩; obtain rfl := hw.symm; clear hw)
    refine (script21 _ _ _ sc _ h4 HR.out).mono ?_
    rintro e w1 ⟨a', n2, c', ps, rfl, hadds, hrow, hle, hb1⟩
    have hruns := runs_script hadds
    obtain ⟨hpl, hrow⟩ := hrow
    have hsz := hb1.size
    have HRu : Hid _ := hruns
    have Hrow : Hid _ := hrow
    have Hr : Hid _ := hr
    clear hadds hruns hrow hr
    go_wp2
    go_loopw [4, 5] (fun kv sv wr => ∃ s k : Nat, s ≤ n ∧ k ≤ n2 ∧ sv = .int .i64 s ∧ kv = .int .i64 k ∧ Runs (sc.drop s) (ps.drop k) ∧ Below w1.heap.size w1 wr) (fun _ sv _ => n - (intOf sv).toNat)
    case atStart => exact ⟨0, 0, Nat.zero_le _, Nat.zero_le _, rfl, rfl, HRu.out, Below.refl _ _⟩
    case round =>
      revert wr
      intro wo hrel
      obtain ⟨s, k, hsn, hkn, rfl, rfl, hruns, hb⟩ := hrel
      by_cases hlt : s < n
      · have hsl : s < sc.length := by omega
        obtain ⟨b, off, rfl, hc⟩ := Hr.out.resolve_left (by omega)
        have hb0 : Below w.heap.size w wo := hb1.trans (hb.mono hsz)
        have hcs : ∀ j (h : j < sc.length), wo.cell? ⟨b, off + j * 2, none⟩ = some (.int .i64 sc[j].1) ∧ wo.cell? ⟨b, off + j * 2 + 1, none⟩ = some (.float .f64 sc[j].2) := fun j h => ⟨cell_later hb0 (hc j h).1, cell_later hb0 (hc j h).2⟩
        have Hcs : Hid _ := hcs
        have Hb0 : Hid _ := hb0
        have Hb : Hid _ := hb
        have HRn : Hid _ := hruns
        clear hcs hb0 hb hruns hc
        go_wp2
        go_loopw [6] (fun ev w2 => ∃ e m : Nat, s < e ∧ e ≤ n ∧ ev = .int .i64 e ∧ (∀ j (h : j < sc.length), s ≤ j → j < e → sc[j].1 = sc[s].1) ∧ w2 = wo.drewN m) (fun ev _ => n - (intOf ev).toNat)
        case atStart =>
          refine ⟨s + 1, 0, by omega, by omega, by go_num, ?_, rfl⟩
          intro j h h1 h2
          obtain rfl : j = s := by omega
          rfl
        case round =>
          obtain ⟨e, m, hse, hen, rfl, hall, rfl⟩ := hrel
          have HAll : Hid _ := hall
          clear hall
          have hi2 : (s : Int) < (n : Int) := by omega
          have cs' := (Hcs.out s hsl).1
          by_cases hgo : ∃ h : e < sc.length, sc[e].1 = sc[s].1
          · obtain ⟨hel', heq⟩ := hgo
            have ce := (Hcs.out e hel').1
            have hi1 : (e : Int) < (n : Int) := by omega
            have HAll2 : Hid (∀ j (h : j < sc.length), s ≤ j → j < e + 1 → sc[j].1 = sc[s].1) := by
              intro j h h1 h2
              by_cases hje : j = e
              · subst hje; exact heq
              · exact HAll.out j h h1 (by omega)
            rw [heq] at ce
            clear heq HAll
            generalize sc[s].1 = x at *
            go_wp2
            go_quiet (fail)
            go_wp2
            go_roundw
            case rel => exact ⟨e + 1, m + nq, by omega, by omega, by go_num, HAll2.out, rfl⟩
            case measure => simp [intOf]; omega
          · have hend : ∀ h : e < sc.length, sc[e].1 ≠ sc[s].1 := fun h heq => hgo ⟨h, heq⟩
            obtain ⟨t, qs', hq1, hq2, hq3⟩ := run_end HRn.out hsl hse (by omega) HAll.out hend
            have hkl : k < ps.length := by
              have := congrArg List.length hq1
              simp at this; omega
            have hpk : ps[k] = (sc[s].1, t) ∧ ps.drop (k + 1) = qs' := by
              rw [List.drop_eq_getElem_cons hkl] at hq1
              exact ⟨(List.cons.inj hq1).1, (List.cons.inj hq1).2⟩
            obtain ⟨b2, off2, rfl, hc2⟩ := Hrow.out.resolve_left (by omega)
            have ck0 : wo.cell? ⟨b2, off2 + k * 2, none⟩ = some (.int .i64 sc[s].1) := by
              have := cell_later Hb.out (hc2 k hkl).1
              rw [hpk.1] at this; exact this
            have ck1 : wo.cell? ⟨b2, off2 + k * 2 + 1, none⟩ = some (.float .f64 t) := by
              have := cell_later Hb.out (hc2 k hkl).2
              rw [hpk.1] at this; exact this
            have HQ2 : Hid _ := hq2
            have HQ3 : Hid (Runs (sc.drop e) (ps.drop (k + 1))) := by rw [hpk.2]; exact hq3
            have hk1 : ¬ ((n2 : Int) ≤ (k : Int)) := by omega
            have hk2 : (k : Int) < (n2 : Int) := by omega
            have hend' : ∀ h : e < sc.length, (sc[e].1 == sc[s].1) = false := fun h => by simpa using hend h
            have HE : Hid _ := hend'
            clear hq1 hq2 hq3 hpk hc2 hend hend' hgo HAll
            have hcase : (decide (e < n) = false) ∨ (∃ y, (e : Int) < (n : Int) ∧ wo.cell? ⟨b, off + e * 2, none⟩ = some (.int .i64 y) ∧ (y == sc[s].1) = false) := by
              by_cases hel : e < n
              · exact .inr ⟨sc[e].1, by omega, (Hcs.out e (by omega)).1, HE.out (by omega)⟩
              · exact .inl (by simp; omega)
            clear HE
            generalize hxs : sc[s].1 = x at *
            have HXS : Hid _ := hxs
            clear hxs
            have hby : i0.bytes * (e - s) ≤ 281474976710656 := by rw [hz2]; omega
            rcases hcase with hdf | ⟨y, hi1, ce, hne⟩
            all_goals
              go_wp2
              go_quiet (fail)
              go_wp2
              go_quiet (fail)
              go_wp2_with (at_make; refine wpList_make_full _ rfl _ _ 25 rfl wo.heap.size 29 i0 (.float .f64 0) 1 Trym.underlying25 hi hz0 hz1 _ _ _ _ (e - s) rfl rfl (by omega) (by omega) hby (by unfold maxLen; omega) (Nat.le_refl _) ?_)
              intro w3 hown3 hgrow3
              have hb3 : Below wo.heap.size wo w3 := (below_drewN (Below.refl _ _) _).grown hgrow3 (Nat.le_refl _) (by intro k hk; cases hk)
              have hfl : (((sc.drop s).take (e - s)).map (·.2)).length = e - s := by simp; omega
              have hfg : ∀ d (h : s + d < sc.length), d < e - s → (((sc.drop s).take (e - s)).map (·.2)).getD d 0 = sc[s + d].2 := by
                intro d h hd
                simp [List.getD, hd, h]
              generalize (((sc.drop s).take (e - s)).map (·.2)) = FS at *
              have hown4 : w3.ownsRow wo.heap.size 29 1 (.slice (some ⟨wo.heap.size, 0, none⟩) (e - s) (e - s)) (e - s) (upto (e - s) 0 FS) := by
                rw [← upto_zero, ← toList_madeCells_one]; simpa using hown3
              have HFG : Hid _ := hfg
              have HFL : Hid _ := hfl
              clear hown3 hgrow3 hfg hfl
              go_wp2
              go_loopw [8] (fun iv wr => ∃ d : Nat, d ≤ e - s ∧ iv = .int .i64 ((s : Int) + (d : Int)) ∧ wr.ownsRow wo.heap.size 29 1 (.slice (some ⟨wo.heap.size, 0, none⟩) (e - s) (e - s)) (e - s) (upto (e - s) d FS) ∧ Below wo.heap.size wo wr) (fun iv _ => e - (intOf iv).toNat)
              case atStart => exact ⟨0, Nat.zero_le _, by simp, hown4, hb3⟩
              case round =>
                obtain ⟨d, hde, rfl, hown, hbx⟩ := hrel
                by_cases hdl : d < e - s
                · have hsd : s + d < sc.length := by omega
                  have hcr : wo.cell? ⟨b, off + (s + d) * 2 + 1, none⟩ = some (.float .f64 sc[s + d].2) := (Hcs.out (s + d) hsd).2
                  have hck : wr.cell? ⟨b, off + (s + d) * 2 + 1, none⟩ = some (.float .f64 sc[s + d].2) := cell_later hbx hcr
                  have hco : wr.cell? ⟨wo.heap.size, d, none⟩ = some (.float .f64 0) := by
                    rw [hown.cellAt d (by omega), upto_get _ _ _ _ hdl, if_neg (by omega)]
                  have hfo := hown.frozenAt d
                  have hst := hown.stored d (.float .f64 sc[s + d].2)
                  rw [← HFG.out d hsd hdl, upto_set, HFG.out d hsd hdl] at hst
                  have hbb : Below wo.heap.size wo (wr.setCell ⟨wo.heap.size, d, none⟩ (.float .f64 sc[s + d].2)) := hbx.setCell (Nat.le_refl _) _
                  have H1 : Hid _ := hst.1
                  have H2 : Hid _ := hbb
                  clear hst hbb hown hbx hcr hown4 hb3
                  generalize sc[s + d].2 = tk at *
                  go_wp2
                  go_roundw
                  case rel => exact ⟨d + 1, by omega, by go_num, H1.out, H2.out⟩
                  case measure => simp [intOf]; omega
                · have hdE : d = e - s := by omega
                  subst hdE
                  have hfr := group_frow HFL.out hown
                  have ck2 : wr.cell? ⟨b2, off2 + k * 2 + 1, none⟩ = some (.float .f64 t) := cell_later hbx ck1
                  have hbF : Below w1.heap.size w1 wr := Hb.out.trans (hbx.mono Hb.out.size)
                  have HFr : Hid _ := hfr
                  have HbF : Hid _ := hbF
                  clear hown hbx hown4 hb3 hfr hbF
                  go_wp2
                  go_region_held3 (fun w' => w'.cell? ⟨b2, off2 + k * 2 + 1, none⟩ = some (.float .f64 t)) (go_keep)
                    (first | (go_at_call 22; refine (zzsum22 _ _ _ FS _ (by unfold maxLen; omega) (show FRow wr.drew _ _ FS from HFr.out)).mono ?_; rintro e' w' ⟨r, mm, rfl, hs, rfl⟩) | (go_at_call 17; refine (same17 _ _ _ (HQ2.out _ hs)).mono ?_; rintro e' w' ⟨rfl, rfl⟩))
                  clear hs
                  go_wp2
                  go_roundw
                  case rel => exact ⟨e, k + 1, by omega, by omega, rfl, by go_num, HQ3.out, below_drewN HbF.out _⟩
                  case measure => simp [intOf]; omega
      · have hsn' : s = n := by omega
        have hd0 : sc.drop s = [] := List.drop_eq_nil_of_le (by omega)
        rw [hd0] at hruns
        have hk : k = n2 := by
          cases hq : ps.drop k with
          | nil =>
            have := congrArg List.length hq
            simp at this; omega
          | cons q qs =>
            rw [hq] at hruns
            obtain ⟨t0, l, rest, h1, _⟩ := hruns
            cases h1
        have hbF : Below w.heap.size w wo := hb1.trans (hb.mono hsz)
        clear hruns hd0 hb
        subst hk
        go_wp2
        go_ret
        exact ⟨by simp, hbF⟩
  · have h4' : ((4096 : Int) < (n : Int)) := by omega
    by_cases hd : n ≤ 1048576
    all_goals
      go_enter Trym.func6, Trym.ntmps6
      go_wp2_with (go_at_call 20; refine (bytes20 _ _ _ _ hn').mono ?_; rintro e w' ⟨rfl, hw⟩; obtain rfl := hw.symm; clear hw)
      go_ret
      exact ⟨rfl, Below.refl _ _⟩

end Go.Proofs.Qxb6602788aMods
