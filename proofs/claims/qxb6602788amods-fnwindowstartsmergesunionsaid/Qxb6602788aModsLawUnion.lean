/-
  THE WALK over FnWindowStartsMergesUnion (3).
-/
import Derived.Test.Qxb6602788aModsRunOf
import Derived.Test.Qxb6602788aModsLawItself
namespace Go.Proofs.Qxb6602788aMods
open Go.RowKit

theorem frow_cells {w : World} {b n : Nat} {fs : List Nat} (h : FRow w (some ⟨b, 0, none⟩) n fs) : ∀ i, i < n → w.cell? ⟨b, i, none⟩ = some (.float .f64 (fs.getD i 0)) := by
  intro i hi
  rcases h.2 with h0 | ⟨b', off, he, hc⟩
  · omega
  · simp at he
    obtain ⟨rfl, rfl⟩ := he
    have := hc i hi
    rwa [Nat.zero_add] at this

theorem map_getD (xs : List (Nat × Int)) (i : Nat) (h : i < xs.length) : (xs.map (·.1)).getD i 0 = xs[i].1 := by simp [List.getD, h]

set_option maxRecDepth 100000 in
set_option maxHeartbeats 8000000 in
theorem law3 (a : Option Addr) (n c : Nat) (xs : List (Nat × Int)) (a2 : Option Addr) (m c2 : Nat) (ys : List (Nat × Int)) (w : World) (hn : n ≤ maxLen) (hm : m ≤ maxLen) (hr : WRow w a n xs) (hr2 : WRow w a2 m ys) (h0 : a = none → n = 0 ∧ c = 0) (h02 : a2 = none → m = 0 ∧ c2 = 0) :
    Calls Trym.prog 3 #[.slice a n c, .slice a2 m c2] w (LawPost w) := by
  have hn' : n ≤ maxLen := hn
  have hm' : m ≤ maxLen := hm
  unfold maxLen at hn hm
  have hx : xs.length = n := hr.1
  have hy : ys.length = m := hr2.1
  by_cases h4 : n ≤ 4096 ∧ m ≤ 4096
  · obtain ⟨h4, h5⟩ := h4
    have hd : decide (n + m ≤ 1048576) = true := by simp; omega
    have h4' : ¬ ((4096 : Int) < (n : Int)) := by omega
    have h5' : ¬ ((4096 : Int) < (m : Int)) := by omega
    have h16 : ¬ ((1048576 : Int) < 16 * ((n : Int) + (m : Int))) := by omega
    have q1 := fun (w : World) (a : Option Addr) (n c : Nat) => Lib.run_eql_slice_nil (P := Trym.prog) w 25 29 a n c 0 0 Trym.underlying25
    have HR := hidden hr
    have HR2 := hidden hr2
    have H0 := hidden h0
    have H02 := hidden h02
    clear hr hr2 h0 h02
    go_enter Trym.func3, Trym.ntmps3
    go_wp2_with (go_at_call 10; refine (bytes10 _ _ _ _ _ _ _ hn' hm').mono ?_; rintro e w' ⟨rfl, hw⟩; obtain rfl := hw.symm; clear hw)
    refine (sort11 _ _ _ xs _ (by omega) HR.out).mono ?_
    rintro e w' ⟨sb, rfl, hw, hsb⟩
    obtain rfl := hw.symm
    clear hw
    cases sb with
    | false =>
      clear hsb
      go_wp2
      go_ret
      exact ⟨rfl, Below.refl _ _⟩
    | true =>
      have HSA := hidden (hsb rfl)
      clear hsb
      go_wp2_with fail
      refine (sort11 _ _ _ ys _ (by omega) HR2.out).mono ?_
      rintro e w' ⟨sb, rfl, hw, hsb⟩
      obtain rfl := hw.symm
      clear hw
      cases sb with
      | false =>
        clear hsb
        go_wp2
        go_ret
        exact ⟨rfl, Below.refl _ _⟩
      | true =>
        have HSB := hidden (hsb rfl)
        clear hsb
        go_wp2_with fail
        refine (wins13 _ _ _ xs _ (by omega) HR.out H0.out).mono ?_
        rintro e w1 ⟨ra, rc, rfl, hrow, _, hb1, _⟩
        have HW := hidden hrow
        have HB1 := hidden hb1
        clear hrow hb1
        go_wp2_with fail
        refine (wins13 _ _ _ ys _ (by omega) (HR2.out.later HB1.out) H02.out).mono ?_
        rintro e w2 ⟨rb, rd, rfl, hrow, _, hb2, _⟩
        have HW2 := hidden hrow
        have HWa := hidden (HW.out.later hb2)
        have HB2 := hidden (HB1.out.trans (hb2.mono HB1.out.size))
        clear hrow hb2
        go_wp2_with fail
        refine (zzstarts12 _ _ _ xs _ _ _ ys _ h4 h5 HWa.out HW2.out).mono ?_
        rintro e w3 ⟨bO, cO, rfl, hf, hb3⟩
        have HB3 := hidden (HB2.out.trans (hb3.mono HB2.out.size))
        have HcO := hidden (frow_cells hf)
        have hOl : (mg (xs.map (·.1)) (ys.map (·.1))).length ≤ 8192 := by
          have h1 : (mg (xs.map (·.1)) (ys.map (·.1))).length ≤ (xs.map (·.1)).length + (ys.map (·.1)).length := mg_length _ _ _
          rw [List.length_map, List.length_map] at h1; omega
        have HU := hidden (ust_start (xs.map (·.1)) (ys.map (·.1)))
        have HRa := hidden (HR.out.later HB3.out)
        have HRb := hidden (HR2.out.later HB3.out)
        clear hf hb3
        generalize mg (xs.map (·.1)) (ys.map (·.1)) = O at *
        generalize hL : O.length = L at *
        have HL := hidden hL
        clear hL
        clear HW HW2 HWa HB1 HB2
        go_wp2
        go_loopw [6, 7, 8] (fun av bv sv wr => ∃ s tA tB mm : Nat, av = .int .i64 tA ∧ bv = .int .i64 tB ∧ sv = .int .i64 s ∧ USt (xs.map (·.1)) (ys.map (·.1)) O s tA tB ∧ wr = w3.drewN mm) (fun _ _ sv _ => L - (intOf sv).toNat)
        case atStart => exact ⟨0, 0, 0, 0, rfl, rfl, rfl, HU.out, rfl⟩
        case round =>
          obtain ⟨s, tA, tB, mm, rfl, rfl, rfl, hust, rfl⟩ := hrel
          have hsL : s ≤ L := by rw [← HL.out]; exact hust.ls
          by_cases hlt : s < L
          · obtain ⟨rA, rB, hround⟩ := uround HSA.out HSB.out hust (by rw [HL.out]; exact hlt)
            have hpos := hround.pos
            have hlen := hround.len
            rw [HL.out] at hlen
            have hla := hround.la
            have hlb := hround.lb
            rw [List.length_map, hx] at hla
            rw [List.length_map, hy] at hlb
            have hv := hround.num 0 hpos
            rw [Nat.add_zero] at hv
            have hcs : w3.cell? ⟨bO, s, none⟩ = some (.float .f64 (O.getD s 0)) := HcO.out s hlt
            have hn1 := ne_self_num' hv.1
            have hs1 : (s : Int) < (L : Int) := by omega
            have HV := hidden hv
            have HRd := hidden hround
            clear hv hround hust
            generalize hvv : O.getD s 0 = v at *
            have HVV := hidden hvv
            clear hvv
            generalize hMM : max rA rB = M at *
            have HMM := hidden hMM
            clear hMM
            go_wp2
            go_loop [10] (fun ev => ∃ e : Nat, s < e ∧ e ≤ s + M ∧ ev = .int .i64 e) (fun ev => L - (intOf ev).toNat)
            case atStart => exact ⟨s + 1, by omega, by omega, by go_num⟩
            case round =>
              obtain ⟨e, hse, heM, rfl⟩ := hrel
              by_cases hem : e < s + M
              · have hce : w3.cell? ⟨bO, e, none⟩ = some (.float .f64 (O.getD e 0)) := HcO.out e (by omega)
                have hnum : Fl.Num (O.getD e 0) ∧ Fl.key (O.getD e 0) = Fl.key v := by
                  have := HRd.out.num (e - s) (by rw [HMM.out]; omega)
                  rw [show s + (e - s) = e by omega, HVV.out] at this
                  exact this
                have heq : (FloatKind.f64.format.order (O.getD e 0) v == some .eq) = true := by
                  have := eqB_num hnum.1 HV.out.1
                  rw [decide_eq_true hnum.2] at this
                  exact this
                have he1 : (e : Int) < (L : Int) := by omega
                clear hnum
                generalize O.getD e 0 = z at *
                go_wp2
                go_round
                case rel => exact ⟨e + 1, by omega, by omega, by go_num⟩
                case measure => simp [intOf]; omega
              · have heE : e = s + M := by omega
                have hcase : ¬ ((e : Int) < (L : Int)) ∨ ((e : Int) < (L : Int) ∧ ∃ z, w3.cell? ⟨bO, e, none⟩ = some (.float .f64 z) ∧ (FloatKind.f64.format.order z v == some .eq) = false ∧ (FloatKind.f64.format.order v z == some .lt) = true) := by
                  by_cases hel : e < L
                  · right
                    refine ⟨by omega, O.getD e 0, HcO.out e hel, ?_, ?_⟩
                    · have hnx := HRd.out.next (by rw [HMM.out, HL.out]; omega)
                      rw [HMM.out, ← heE, HVV.out] at hnx
                      have := eqB_num hnx.1 HV.out.1
                      rw [decide_eq_false (by omega)] at this
                      exact this
                    · have hnx := HRd.out.next (by rw [HMM.out, HL.out]; omega)
                      rw [HMM.out, ← heE, HVV.out] at hnx
                      have := ltB_num HV.out.1 hnx.1
                      rw [decide_eq_true hnx.2] at this
                      exact this
                  · left; omega
                have hea : ∀ i (h : i < xs.length), eqB xs[i].1 v = decide (tA ≤ i ∧ i < tA + rA) := by
                  intro i h
                  have := HRd.out.ea i (by simpa using h)
                  rw [map_getD xs i h, HVV.out] at this
                  exact this
                have heb : ∀ i (h : i < ys.length), eqB ys[i].1 v = decide (tB ≤ i ∧ i < tB + rB) := by
                  intro i h
                  have := HRd.out.eb i (by simpa using h)
                  rw [map_getD ys i h, HVV.out] at this
                  exact this
                have HEa := hidden hea
                have HEb := hidden heb
                have HeE := hidden heE
                clear hea heb heE
                have hmax : ((rA : Int) < (rB : Int) ∧ M = rB) ∨ (¬ ((rA : Int) < (rB : Int)) ∧ M = rA) := by
                  have := HMM.out
                  by_cases h : rA < rB
                  · exact .inl ⟨by omega, by omega⟩
                  · exact .inr ⟨by omega, by omega⟩
                have hM0 : ((M : Int) == 0) = false := by simp; omega
                have hMne : (((e : Int) - (s : Int)) != (M : Int)) = false := by rw [HeE.out]; simp; omega
                rcases hcase with hel | ⟨hel, z, hcz, hz1, hz2⟩
                all_goals
                  go_wp2_with fail
                  refine (run14 _ _ _ xs v tA rA _ h4 (HRa.out.drewN mm) hla HEa.out).mono ?_
                  rintro e' w' ⟨rfl, hw⟩
                  obtain rfl := hw.symm
                  clear hw
                  go_wp2_with fail
                  refine (run14 _ _ _ ys v tB rB _ h5 (HRb.out.drewN mm) hlb HEb.out).mono ?_
                  rintro e' w' ⟨rfl, hw⟩
                  obtain rfl := hw.symm
                  clear hw
                  rcases hmax with ⟨hmx, hMe⟩ | ⟨hmx, hMe⟩
                  · subst hMe
                    have hfa : 0 < rA → fstOf tA rA = (tA : Int) := fun h => if_pos h
                    have hfb : 0 < M → fstOf tB M = (tB : Int) := fun h => if_pos h
                    generalize fstOf tA rA = fa at *
                    generalize fstOf tB M = fb at *
                    have HFa := hidden hfa
                    have HFb := hidden hfb
                    clear hfa hfb
                    go_wp2
                    go_loopw [16] (fun tv wr => ∃ t mt : Nat, t ≤ M ∧ tv = .int .i64 t ∧ wr = w3.drewN mt) (fun tv _ => M - (intOf tv).toNat)
                    case atStart => exact ⟨0, mm, Nat.zero_le _, rfl, rfl⟩
                    case round =>
                      obtain ⟨t, mt, htM, rfl, rfl⟩ := hrel
                      by_cases htl : t < M
                      · have hco : w3.cell? ⟨bO, ((s : Int) + (t : Int)).toNat, none⟩ = some (.float .f64 (O.getD (s + t) 0)) := by rw [show ((s : Int) + (t : Int)).toNat = s + t by omega]; exact HcO.out (s + t) (by omega)
                        have hst1 : (s : Int) + (t : Int) < (L : Int) := by omega
                        have hst0 : (0 : Int) ≤ (s : Int) + (t : Int) := by omega
                        have hstw : IntKind.i64.wrap ((s : Int) + (t : Int)) = (s : Int) + (t : Int) := by rw [IntKind.wrap_i64]; omega
                        by_cases htA : t < rA
                        · have hfst := HFa.out (by omega)
                          subst hfst
                          have hal : tA + t < xs.length := by omega
                          obtain ⟨b, off, rfl, hc⟩ := HRa.out.2.resolve_left (by omega)
                          have hca : w3.cell? ⟨b, off + ((tA : Int) + (t : Int)).toNat * 2, none⟩ = some (.float .f64 (O.getD (s + t) 0)) := by
                            rw [show ((tA : Int) + (t : Int)).toNat = tA + t by omega]
                            have h1 := (hc (tA + t) hal).1
                            rw [HRd.out.ca t htA, map_getD xs (tA + t) hal]; exact h1
                          have hat1 : (tA : Int) + (t : Int) < (n : Int) := by omega
                          have hat0 : (0 : Int) ≤ (tA : Int) + (t : Int) := by omega
                          have hatw : IntKind.i64.wrap ((tA : Int) + (t : Int)) = (tA : Int) + (t : Int) := by rw [IntKind.wrap_i64]; omega
                          clear hc
                          generalize O.getD (s + t) 0 = x at *
                          clear HRa HRb HcO HEa HEb HRd HV HVV HMM HeE HSA HSB HR HR2 HU HB3 H0 H02 hM0 hMne hcs hn1 hel HFa HFb
                          go_wp2
                          go_region_held3 (fun w' => w'.cell? ⟨bO, ((s : Int) + (t : Int)).toNat, none⟩ = some (.float .f64 x) ∧ w'.cell? ⟨b, off + ((tA : Int) + (t : Int)).toNat * 2, none⟩ = some (.float .f64 x)) (go_keep)
                            (first | (go_at_call 15; refine (float15 _ _).mono ?_; rintro e' w' ⟨rfl, rfl⟩))
                          go_wp2
                          go_roundw
                          case rel => exact ⟨t + 1, mt + 1, by omega, by go_num, rfl⟩
                          case measure => simp [intOf]; omega
                        · have hfst := HFb.out (by omega)
                          subst hfst
                          have hal : tB + t < ys.length := by omega
                          obtain ⟨b, off, rfl, hc⟩ := HRb.out.2.resolve_left (by omega)
                          have hca : w3.cell? ⟨b, off + ((tB : Int) + (t : Int)).toNat * 2, none⟩ = some (.float .f64 (O.getD (s + t) 0)) := by
                            rw [show ((tB : Int) + (t : Int)).toNat = tB + t by omega]
                            have h1 := (hc (tB + t) hal).1
                            rw [HRd.out.cb t (by omega) (by omega), map_getD ys (tB + t) hal]; exact h1
                          have hat1 : (tB : Int) + (t : Int) < (m : Int) := by omega
                          have hat0 : (0 : Int) ≤ (tB : Int) + (t : Int) := by omega
                          have hatw : IntKind.i64.wrap ((tB : Int) + (t : Int)) = (tB : Int) + (t : Int) := by rw [IntKind.wrap_i64]; omega
                          clear hc
                          generalize O.getD (s + t) 0 = x at *
                          clear HRa HRb HcO HEa HEb HRd HV HVV HMM HeE HSA HSB HR HR2 HU HB3 H0 H02 hM0 hMne hcs hn1 hel HFa HFb
                          go_wp2
                          go_region_held3 (fun w' => w'.cell? ⟨bO, ((s : Int) + (t : Int)).toNat, none⟩ = some (.float .f64 x) ∧ w'.cell? ⟨b, off + ((tB : Int) + (t : Int)).toNat * 2, none⟩ = some (.float .f64 x)) (go_keep)
                            (first | (go_at_call 15; refine (float15 _ _).mono ?_; rintro e' w' ⟨rfl, rfl⟩))
                          go_wp2
                          go_roundw
                          case rel => exact ⟨t + 1, mt + 1, by omega, by go_num, rfl⟩
                          case measure => simp [intOf]; omega
                      · have hst := HRd.out.st
                        rw [HMM.out, ← HeE.out] at hst
                        have HST := hidden hst
                        clear hst
                        clear HRa HRb HcO HEa HEb HRd HV HVV HMM HSA HSB HR HR2 HU HB3 H0 H02 hM0 hMne hcs hn1 hel HFa HFb
                        go_wp2
                        go_roundw
                        case rel => exact ⟨e, tA + rA, tB + M, mt, by go_num, by go_num, rfl, HST.out, rfl⟩
                        case measure => simp [intOf]; have := HeE.out; omega
                  · subst hMe
                    have hfa : 0 < M → fstOf tA M = (tA : Int) := fun h => if_pos h
                    have hfb : 0 < rB → fstOf tB rB = (tB : Int) := fun h => if_pos h
                    generalize fstOf tA M = fa at *
                    generalize fstOf tB rB = fb at *
                    have hmb1 : decide ((M : Int) < (rB : Int)) = false := decide_eq_false (by omega)
                    have hmb2 : decide (M < rB) = false := decide_eq_false (by omega)
                    have HFa := hidden hfa
                    have HFb := hidden hfb
                    clear hfa hfb
                    go_wp2
                    go_loopw [16] (fun tv wr => ∃ t mt : Nat, t ≤ M ∧ tv = .int .i64 t ∧ wr = w3.drewN mt) (fun tv _ => M - (intOf tv).toNat)
                    case atStart => exact ⟨0, mm, Nat.zero_le _, rfl, rfl⟩
                    case round =>
                      obtain ⟨t, mt, htM, rfl, rfl⟩ := hrel
                      by_cases htl : t < M
                      · have hco : w3.cell? ⟨bO, ((s : Int) + (t : Int)).toNat, none⟩ = some (.float .f64 (O.getD (s + t) 0)) := by rw [show ((s : Int) + (t : Int)).toNat = s + t by omega]; exact HcO.out (s + t) (by omega)
                        have hst1 : (s : Int) + (t : Int) < (L : Int) := by omega
                        have hst0 : (0 : Int) ≤ (s : Int) + (t : Int) := by omega
                        have hstw : IntKind.i64.wrap ((s : Int) + (t : Int)) = (s : Int) + (t : Int) := by rw [IntKind.wrap_i64]; omega
                        have htA : t < M := htl
                        have hfst := HFa.out (by omega)
                        subst hfst
                        have hal : tA + t < xs.length := by omega
                        obtain ⟨b, off, rfl, hc⟩ := HRa.out.2.resolve_left (by omega)
                        have hca : w3.cell? ⟨b, off + ((tA : Int) + (t : Int)).toNat * 2, none⟩ = some (.float .f64 (O.getD (s + t) 0)) := by
                          rw [show ((tA : Int) + (t : Int)).toNat = tA + t by omega]
                          have h1 := (hc (tA + t) hal).1
                          rw [HRd.out.ca t htA, map_getD xs (tA + t) hal]; exact h1
                        have hat1 : (tA : Int) + (t : Int) < (n : Int) := by omega
                        have hat0 : (0 : Int) ≤ (tA : Int) + (t : Int) := by omega
                        have hatw : IntKind.i64.wrap ((tA : Int) + (t : Int)) = (tA : Int) + (t : Int) := by rw [IntKind.wrap_i64]; omega
                        clear hc
                        generalize O.getD (s + t) 0 = x at *
                        clear HRa HRb HcO HEa HEb HRd HV HVV HMM HeE HSA HSB HR HR2 HU HB3 H0 H02 hM0 hMne hcs hn1 hel HFa HFb
                        go_wp2
                        go_region_held3 (fun w' => w'.cell? ⟨bO, ((s : Int) + (t : Int)).toNat, none⟩ = some (.float .f64 x) ∧ w'.cell? ⟨b, off + ((tA : Int) + (t : Int)).toNat * 2, none⟩ = some (.float .f64 x)) (go_keep)
                          (first | (go_at_call 15; refine (float15 _ _).mono ?_; rintro e' w' ⟨rfl, rfl⟩))
                        go_wp2
                        go_roundw
                        case rel => first | exact ⟨t + 1, mt + 1, by omega, by go_num, rfl⟩ | ((repeat apply Exists.intro); exact ⟨⟨t + 1, mt + 1, by omega, by go_num, rfl⟩, rfl⟩)
                        case measure => simp [intOf]; omega
                      · have hst := HRd.out.st
                        rw [HMM.out, ← HeE.out] at hst
                        have HST := hidden hst
                        clear hst
                        clear HRa HRb HcO HEa HEb HRd HV HVV HMM HSA HSB HR HR2 HU HB3 H0 H02 hM0 hMne hcs hn1 hel HFa HFb
                        go_wp2
                        go_roundw
                        case rel => exact ⟨e, tA + M, tB + rB, mt, by go_num, by go_num, rfl, HST.out, rfl⟩
                        case measure => simp [intOf]; have := HeE.out; omega
          · have hsE : s = L := by omega
            have hend : tA = n ∧ tB = m := by
              have h1 := hust
              rw [hsE, ← HL.out] at h1
              have h2 := ust_end h1
              rw [List.length_map, List.length_map, hx, hy] at h2
              exact h2
            obtain ⟨rfl, rfl⟩ := hend
            clear hust HRa HRb HcO HSA HSB HR HR2 HU H0 H02
            go_wp2
            go_ret
            exact ⟨by simp, below_drewN HB3.out mm⟩
  · by_cases hd : n + m ≤ 1048576
    · by_cases h4' : (4096 : Int) < (n : Int)
      · go_enter Trym.func3, Trym.ntmps3
        go_wp2_with (go_at_call 10; refine (bytes10 _ _ _ _ _ _ _ hn' hm').mono ?_; rintro e w' ⟨rfl, hw⟩; obtain rfl := hw.symm; clear hw)
        go_ret
        exact ⟨rfl, Below.refl _ _⟩
      · have h5' : (4096 : Int) < (m : Int) := by omega
        go_enter Trym.func3, Trym.ntmps3
        go_wp2_with (go_at_call 10; refine (bytes10 _ _ _ _ _ _ _ hn' hm').mono ?_; rintro e w' ⟨rfl, hw⟩; obtain rfl := hw.symm; clear hw)
        go_ret
        exact ⟨rfl, Below.refl _ _⟩
    · go_enter Trym.func3, Trym.ntmps3
      go_wp2_with (go_at_call 10; refine (bytes10 _ _ _ _ _ _ _ hn' hm').mono ?_; rintro e w' ⟨rfl, hw⟩; obtain rfl := hw.symm; clear hw)
      go_ret
      exact ⟨rfl, Below.refl _ _⟩

end Go.Proofs.Qxb6602788aMods
