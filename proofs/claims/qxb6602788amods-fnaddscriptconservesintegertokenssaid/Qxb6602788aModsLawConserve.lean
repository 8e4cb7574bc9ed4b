/-
  THE WALK over FnAddScriptConservesIntegerTokens (7).
-/
import Derived.Test.Qxb6602788aModsAllInt
import Derived.Test.Qxb6602788aModsLawSum
namespace Go.Proofs.Qxb6602788aMods
open Go.RowKit
attribute [local go_sem] run_store_float

set_option maxHeartbeats 400000 in
theorem bytes23 (a : Option Addr) (n c : Nat) (w : World) (hn : n ≤ maxLen) :
    Calls Trym.prog 23 #[.slice a n c] w fun e w' => e = .returned (.bool (decide (n ≤ 1048576))) ∧ w' = w := by
  unfold maxLen at hn
  by_cases h : n ≤ 1048576
  · have h' : ¬ ((1048576 : Int) < (n : Int)) := by omega
    go_enter Trym.func23, Trym.ntmps23
    go_wp2
    go_ret
    exact ⟨by simp, rfl⟩
  · have h' : ((1048576 : Int) < (n : Int)) := by omega
    go_enter Trym.func23, Trym.ntmps23
    go_wp2
    go_ret
    exact ⟨by simp [h], rfl⟩

theorem upto_frow {w : World} {base n c g : Nat} {fs : List Nat} (hl : fs.length = n) (h : w.ownsRow base 29 1 (.slice (some ⟨g, 0, none⟩) n c) n (upto n n fs)) : FRow w (some ⟨g, 0, none⟩) n fs := by
  refine ⟨hl, .inr ⟨g, 0, rfl, fun i hi => ?_⟩⟩
  rw [Nat.zero_add, h.cellAt i (by omega), upto_get _ _ _ _ hi, if_pos (by omega)]

set_option maxHeartbeats 4000000 in
theorem law7 (a : Option Addr) (n c : Nat) (sc : List (Int × Nat)) (w : World) (hn : n ≤ maxLen) (hr : ARow w a n sc) :
    Calls Trym.prog 7 #[.slice a n c] w (LawPost w) := by
  have hn' : n ≤ maxLen := hn
  unfold maxLen at hn
  by_cases h4 : n ≤ 4096
  · have hd : decide (n ≤ 1048576) = true := by simp; omega
    have h4' : ¬ ((4096 : Int) < (n : Int)) := by omega
    have h16 : ¬ ((1048576 : Int) < 16 * (n : Int)) := by omega
    have HR : Hid _ := hr
    obtain ⟨hl, hr⟩ := hr
    obtain ⟨i0, hi, hz0, hz1, hz2⟩ := info_parts Trym.info29
    go_enter Trym.func7, Trym.ntmps7
    go_wp2_with (go_at_call 23; refine (bytes23 _ _ _ _ hn').mono ?_; rintro e w' ⟨rfl, hw⟩; obtain rfl := hw.symm; clear hw)
    go_loop [3, 4] (fun i v => ∃ k : Nat, k ≤ n ∧ i = .int .i64 k ∧ ∀ j (h : j < sc.length), j < k → Good sc[j].2) (fun i _ => n - (intOf i).toNat)
    case atStart => exact ⟨0, Nat.zero_le _, rfl, fun j _ hj => absurd hj (Nat.not_lt_zero _)⟩
    case round =>
      obtain ⟨k, hk, rfl, hgood⟩ := hrel
      have HG : Hid _ := hgood
      clear hgood
      by_cases hlt : k < n
      · have hkl : k < sc.length := by omega
        obtain ⟨b, off, rfl, hc⟩ := hr.resolve_left (by omega)
        have hck : w.cell? ⟨b, off + k * 2 + 1, none⟩ = some (.float .f64 sc[k].2) := (hc k hkl).2
        have HC : Hid _ := hc
        clear hc
        generalize hx : sc[k].2 = x at *
        have HX : Hid _ := hx
        clear hx
        cases h1 : ((FloatKind.f64.format.order x 14010698440749613056 == some .gt) || (FloatKind.f64.format.order x 14010698440749613056 == some .eq)) with
        | false =>
          go_wp2
          go_ret
          exact ⟨rfl, Below.refl _ _⟩
        | true =>
          cases h2 : ((FloatKind.f64.format.order x 4787326403894837248 == some .lt) || (FloatKind.f64.format.order x 4787326403894837248 == some .eq)) with
          | false =>
            go_wp2
            go_ret
            exact ⟨rfl, Below.refl _ _⟩
          | true =>
            obtain ⟨m, hm, hmi, fx⟩ := range_ok (x := x) h1 h2
            have hrun := fun (w : World) => run_convert_float_int (P := Trym.prog) w 29 2 .f64 .i64 x m (by rw [Trym.underlying29]; rfl) Trym.underlying2 hmi
            cases h3 : (FloatKind.f64.format.order (floatOfInt .f64 m) x == some .eq) with
            | false =>
              have h3' : (FloatKind.f64.format.order (floatOfInt .f64 m) x != some .eq) = true := by rw [bne, h3]; rfl
              have HI : Hid _ := hmi
              clear hmi
              go_wp2
              go_ret
              exact ⟨rfl, Below.refl _ _⟩
            | true =>
              have h3' : (FloatKind.f64.format.order (floatOfInt .f64 m) x != some .eq) = false := by rw [bne, h3]; rfl
              have hg : Good x := ⟨m, hm, hmi, whole_ok hm fx h3⟩
              have HI : Hid _ := hmi
              have HGx : Hid _ := hg
              clear hmi hg
              go_wp2
              go_round
              case rel =>
                refine ⟨k + 1, by omega, by go_num, ?_⟩
                intro j hjl hj
                by_cases e : j = k
                · subst e; rw [HX.out]; exact HGx.out
                · exact HG.out j hjl (by omega)
              case measure => simp [intOf]; omega
      · have hall : ∀ x ∈ sc, Good x.2 := by
          intro x hx
          obtain ⟨j, hj, rfl⟩ := List.getElem_of_mem hx
          exact HG.out j hj (by omega)
        have HA : Hid _ := hall
        clear hall HG
        go_wp2
        go_loop [5, 6] (fun t i => ∃ k : Nat, k ≤ n ∧ i = .int .i64 k ∧ t = .int .i64 (tot ((sc.take k).map (·.2)))) (fun _ i => n - (intOf i).toNat)
        case atStart => exact ⟨0, Nat.zero_le _, rfl, rfl⟩
        case round =>
          obtain ⟨k', hk', rfl, rfl⟩ := hrel
          have hb := tot_bound ((sc.take k').map (·.2)) (fun x hx => by
            obtain ⟨y, hy, rfl⟩ := List.mem_map.1 hx
            exact HA.out y (List.mem_of_mem_take hy))
          have hlen : ((sc.take k').map (·.2)).length ≤ k' := by rw [List.length_map]; exact List.length_take_le _ _
          by_cases hlt' : k' < n
          · have hkl : k' < sc.length := by omega
            obtain ⟨b, off, rfl, hc⟩ := hr.resolve_left (by omega)
            have hck : w.cell? ⟨b, off + k' * 2 + 1, none⟩ = some (.float .f64 sc[k'].2) := (hc k' hkl).2
            have hts := tot_snoc ((sc.take k').map (·.2)) sc[k'].2
            have e3 : (sc.take k').map (·.2) ++ [sc[k'].2] = (sc.take (k' + 1)).map (·.2) := by rw [List.take_succ_eq_append_getElem hkl, List.map_append]; rfl
            rw [e3] at hts
            have HTS : Hid _ := hts
            clear hts hc e3
            obtain ⟨g1, g2, _⟩ := (HA.out sc[k'] (List.getElem_mem hkl)).iv
            generalize tot ((sc.take k').map (·.2)) = T at *
            have b1 : -4503599627370496 ≤ T := by omega
            have b2 : T ≤ 4503599627370496 := by omega
            clear hb
            generalize sc[k'].2 = x at *
            have b3 : -1099511627776 ≤ iv x := by omega
            have b4 : iv x ≤ 1099511627776 := by omega
            have hrun := fun (w : World) => run_convert_float_int (P := Trym.prog) w 29 2 .f64 .i64 x (iv x) (by rw [Trym.underlying29]; rfl) Trym.underlying2 g2
            clear g1 g2
            go_wp2
            go_round
            case rel => exact ⟨k' + 1, by omega, by go_num, by rw [HTS.out]⟩
            case measure => simp [intOf]; omega
          · have e : sc.take k' = sc := List.take_of_length_le (by omega)
            rw [e]
            clear hb hlen e
            generalize hT : tot (sc.map (·.2)) = T
            have HTT : Hid _ := hT
            clear hT
            go_wp2_with fail
            refine (script21 _ _ _ sc _ h4 HR.out).mono ?_
            rintro e w1 ⟨a', n2, c', ps, rfl, hadds, hrow, hle, hb1⟩
            have hps := adds_pos sc [] ps hadds
            have HAd : Hid _ := hadds
            clear hadds
            obtain ⟨hpl, hrow⟩ := hrow
            have hle2 : ¬ ((n : Int) < (n2 : Int)) := by omega
            have hby : i0.bytes * n2 ≤ 281474976710656 := by rw [hz2]; omega
            have hne : (0 : Int) < (n : Int) → ((n2 : Int) == 0) = false := by
              intro h
              have : 0 < ps.length := hps (fun e => by rw [e] at hl; simp at hl; omega)
              simp; omega
            clear hps
            have hsz := hb1.size
            have hcases : ¬ ((0 : Int) < (n : Int)) ∨ ((0 : Int) < (n : Int) ∧ ((n2 : Int) == 0) = false) := by
              by_cases hn1 : (0 : Int) < (n : Int)
              · exact .inr ⟨hn1, hne hn1⟩
              · exact .inl hn1
            clear hne
            rcases hcases with hdz | ⟨hn1, hne'⟩
            all_goals
              go_wp2_with (at_make; refine wpList_make_full _ rfl _ _ 25 rfl w1.heap.size 29 i0 (.float .f64 0) 1 Trym.underlying25 hi hz0 hz1 _ _ _ _ n2 rfl rfl rfl rfl hby (by unfold maxLen; omega) (Nat.le_refl _) ?_)
              intro w2 hown hgrow
              have hb2 : Below w1.heap.size w1 w2 := (Below.refl _ _).grown hgrow (Nat.le_refl _) (by intro k hk; cases hk)
              have hown' : w2.ownsRow w1.heap.size 29 1 (.slice (some ⟨w1.heap.size, 0, none⟩) n2 n2) n2 (upto n2 0 (ps.map (·.2))) := by
                rw [← upto_zero, ← toList_madeCells_one]; simpa using hown
              clear hown hgrow
              go_wp2
              go_loopw [9] (fun i wr => ∃ k : Nat, k ≤ n2 ∧ i = .int .i64 k ∧ wr.ownsRow w1.heap.size 29 1 (.slice (some ⟨w1.heap.size, 0, none⟩) n2 n2) n2 (upto n2 k (ps.map (·.2))) ∧ Below w1.heap.size w1 wr) (fun i _ => n2 - (intOf i).toNat)
              case atStart => exact ⟨0, Nat.zero_le _, rfl, hown', hb2⟩
              case round =>
                obtain ⟨q, hq, rfl, hown, hb⟩ := hrel
                by_cases hql : q < n2
                · try (exfalso; omega)
                  all_goals
                    have hqp : q < ps.length := by omega
                    obtain ⟨b, off, rfl, hc⟩ := hrow.resolve_left (by omega)
                    have hck : wr.cell? ⟨b, off + q * 2 + 1, none⟩ = some (.float .f64 ps[q].2) := cell_later hb (hc q hqp).2
                    have hco : wr.cell? ⟨w1.heap.size, q, none⟩ = some (.float .f64 0) := by
                      rw [hown.cellAt q (by omega), upto_get _ _ _ _ hql, if_neg (by omega)]
                    have hfo := hown.frozenAt q
                    have egd : (ps.map (·.2)).getD q 0 = ps[q].2 := by simp [List.getD, hqp]
                    have hst := hown.stored q (.float .f64 ps[q].2)
                    rw [← egd, upto_set, egd] at hst
                    have hbb : Below w1.heap.size w1 (wr.setCell ⟨w1.heap.size, q, none⟩ (.float .f64 ps[q].2)) := hb.setCell (Nat.le_refl _) _
                    have H1 : Hid _ := hst.1
                    have H2 : Hid _ := hbb
                    clear hst hbb hown hb hc hown' hb2 egd
                    generalize ps[q].2 = x at *
                    go_wp2
                    go_roundw
                    case rel => exact ⟨q + 1, by omega, by go_num, H1.out, H2.out⟩
                    case measure => simp [intOf]; omega
                · have hqn : q = n2 := by omega
                  subst hqn
                  have hfr := upto_frow (by simpa using hpl) hown
                  have hbB : Below w.heap.size w wr := hb1.trans (hb.mono hsz)
                  clear hown hb hown' hb2 hrow
                  go_wp2_with fail
                  refine (zzsum22 _ _ _ (ps.map (·.2)) _ (by unfold maxLen; omega) hfr).mono ?_
                  rintro e w' ⟨r, m, rfl, hs, rfl⟩
                  have hfin := conserve_eq sc ps r (by omega) HA.out HAd.out hs
                  rw [HTT.out] at hfin
                  have hfin' : (FloatKind.f64.format.order r (floatOfInt .f64 T) == some .eq) = true := hfin
                  go_wp2
                  go_ret
                  exact ⟨by simp, below_drewN hbB _⟩
  · have h4' : ((4096 : Int) < (n : Int)) := by omega
    by_cases hd : n ≤ 1048576
    all_goals
      go_enter Trym.func7, Trym.ntmps7
      go_wp2_with (go_at_call 23; refine (bytes23 _ _ _ _ hn').mono ?_; rintro e w' ⟨rfl, hw⟩; obtain rfl := hw.symm; clear hw)
      go_ret
      exact ⟨rfl, Below.refl _ _⟩

end Go.Proofs.Qxb6602788aMods
