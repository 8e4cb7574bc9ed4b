/-
  THE WALK over FnClassesAtReadsWrittenLabel (6): no prefix.
-/
import Derived.Test.Qxb6604042aModsSteps
namespace Go.Proofs.Qxb6604042aMods
open Go.RowKit

set_option maxRecDepth 100000 in
set_option maxHeartbeats 8000000 in
theorem law6_none (a b c : ByteArray) (w : World) (ha : a.size ≤ maxLen) (hb : b.size ≤ maxLen) (hc : c.size ≤ maxLen) (h1 : a.size + b.size + c.size ≤ 1048576) (h2 : a.size + c.size + 20 * b.size ≤ 1048576) (h0 : 0 < b.size) (ha0 : ¬ 0 < a.size) :
    Calls Trym.prog 6 #[.string a, .string b, .string c] w (Law6Post w) := by
  have hd := decide_eq_true h1
  have k1 : ¬ ((1048576 : Int) < (a.size : Int)) := by omega
  have k2 : ¬ ((1048576 : Int) < (b.size : Int)) := by omega
  have k3 : ¬ ((1048576 : Int) < (c.size : Int)) := by omega
  have k4 : ¬ ((1048576 : Int) < (a.size : Int) + (b.size : Int) + (c.size : Int)) := by omega
  have k5 : ¬ ((1048576 : Int) < (a.size : Int) + (c.size : Int) + 20 * (b.size : Int)) := by omega
  have k6 : ((b.size : Int) == 0) = false := by
    have e : (b.size : Int) ≠ 0 := by omega
    simpa using e
  obtain ⟨i0, hi, hz0, hz1, hz2⟩ := info_parts Trym.info5
  have hby : i0.bytes * (a.size + c.size + 20 * b.size) ≤ 281474976710656 := by rw [hz2]; omega
  go_enter Trym.func6, Trym.ntmps6
  go_wp2_with fail
  refine (bytes16 _ _ _ _ ha hb hc).mono ?_
  rintro e w' ⟨rfl, hw⟩
  obtain rfl := hw.symm
  rw [hd]
  clear hw hd
  go_wp2
  go_loop [7] (fun kv => ∃ k : Nat, k ≤ b.size ∧ kv = .int .i64 k ∧ ∀ j (h : j < b.size), j < k → 65 ≤ b[j].toNat ∧ b[j].toNat ≤ 90) (fun kv => b.size - (intOf kv).toNat)
  case atStart => exact ⟨0, Nat.zero_le _, rfl, fun j _ hj => absurd hj (Nat.not_lt_zero _)⟩
  case round =>
    obtain ⟨k, hk, rfl, hup⟩ := hrel
    have HU := hidden hup
    clear hup
    by_cases hlt : k < b.size
    · have i1 : (k : Int) < (b.size : Int) := by omega
      by_cases h65 : 65 ≤ b[k].toNat
      · have j1 : ¬ ((b[k].toNat : Int) < 65) := by omega
        by_cases h90 : b[k].toNat ≤ 90
        · have j2 : ¬ ((90 : Int) < (b[k].toNat : Int)) := by omega
          have HK := hidden (And.intro h65 h90)
          clear h65 h90
          go_wp2
          go_round
          case rel =>
            refine ⟨k + 1, by omega, by go_num, ?_⟩
            intro j h hj
            by_cases e : j = k
            · subst e; exact HK.out
            · exact HU.out j h (by omega)
          case measure => simp [intOf]; omega
        · have j2 : ((90 : Int) < (b[k].toNat : Int)) := by omega
          clear h65 h90
          go_wp2
          go_ret
          exact ⟨rfl, Below.refl _ _⟩
      · have j1 : ((b[k].toNat : Int) < 65) := by omega
        clear h65
        go_wp2
        go_ret
        exact ⟨rfl, Below.refl _ _⟩
    · have hup : ∀ j (h : j < b.size), 65 ≤ b[j].toNat ∧ b[j].toNat ≤ 90 := fun j h => HU.out j h (by omega)
      clear HU
      have HU := hidden hup
      clear hup
      have l1 : ¬ ((0 : Int) < (a.size : Int)) := by omega
      have HPre := hidden (show ∀ (_ : 0 < a.size) (h : a.size - 1 < a.size), letB a[a.size - 1].toNat = false from fun h => absurd h ha0)
      go_wp2_with fail
      refine (seplen18 _ _ (by omega)).mono ?_
      rintro e w' ⟨m, sl, rfl, hsl, rfl⟩
      by_cases hs : (0 : Int) < sl
      · clear hsl
        go_wp2
        go_ret
        exact ⟨rfl, below_drewN1 (Below.refl _ _) m⟩
      · have hns : anySep c = false := by
          cases hq : anySep c with
          | false => rfl
          | true => exact absurd (hsl.2 hq) hs
        have HNS := hidden hns
        clear hsl hns
        go_wp2_with (at_make; refine wpList_make_own _ rfl _ _ 33 rfl w.heap.size 5 i0 (.int .u8 0) 1 Trym.underlying33 hi hz0 hz1 _ _ _ (a.size + c.size + 20 * b.size) rfl rfl (by omega) hby (by unfold maxLen; omega) (Nat.le_refl _) ?_)
        intro w1 hown1 hgrow1
        have hbel1 : Below w.heap.size w w1 := (below_drewN1 (Below.refl _ _) m).grown hgrow1 (Nat.le_refl _) (by intro q hq; cases hq)
        have hsz1 := hbel1.size
        have HB1 := hidden (show Buf w.heap.size w1 _ [] from hown1)
        have HL1 := hidden hbel1
        clear hbel1 hown1 hgrow1
        go_wp2_with (at_builtin; go_must (refine wpList_buf rfl _ _ rfl w.heap.size _ [] rfl HB1.out a rfl (by simp; omega) hsz1 ?_))
        intro v2 w2 hb2 hg2
        have hbel2 := HL1.out.grown hg2 hsz1 (fun q hq => (World.ownsRow.lt HB1.out q hq).1)
        have HS : Hid (LState w ((w2.alloc (.cells oz 34)).alloc (.cells sz 35)) a b w2.heap.size v2 (.int .i64 0) (.int .i64 0) 0) := by
          refine ⟨oz, sz, rfl, (fun h => absurd h (Nat.lt_irrefl _)), ?_, mem_start hbel2 hbel2.size _ _, seen_start⟩
          have := (hb2.alloc (.cells oz 34)).alloc (.cells sz 35)
          simpa [labTo] using this
        unfold oz sz at HS
        clear hb2 hg2 hbel2 HB1 HL1 hsz1 hby
        go_wp2
        generalize w2.heap.size = o at *
        go_loopw [8, 11, 12, 13, 14] (fun v nv ev kv cv wr => ∃ k : Nat, k ≤ b.size ∧ kv = .int .i64 k ∧ LState w wr a b o v nv ev k) (fun _ _ _ kv _ _ => b.size - (intOf kv).toNat)
        case atStart => exact ⟨0, Nat.zero_le _, rfl, HS.out⟩
        case round =>
          clear HS
          obtain ⟨k, hk, rfl, oa, sa, rfl, hev, hbuf, hmem, hseen⟩ := hrel
          have HB := hidden hbuf
          have HM := hidden hmem
          have HSe := hidden hseen
          have hsh := lab_short a b k
          clear hbuf hmem hseen
          generalize hL : bl a ++ labTo b k = L at *
          have HL := hidden hL
          clear hL
          by_cases hlt2 : k < b.size
          · have i1 : (k : Int) < (b.size : Int) := by omega
            have hup := HU.out k hlt2
            have hlet := letU_get b k hlt2
            have Hlet := hidden hlet
            clear hlet
            have hB := HM.out.base
            by_cases hk0 : 0 < k
            · have i2 : (0 : Int) < (k : Int) := by omega
              have hse : L ++ bl (sepS k) = L ++ sepO k := by rw [← HL.out]; exact lab_sep a b k hk0
              have Hse := hidden hse
              clear hse
              go_wp2_with fail
              refine (sep19 k _ (by omega)).mono ?_
              rintro e w' ⟨rfl, hw⟩
              obtain rfl := hw.symm
              clear hw
              go_wp2_with (at_builtin; go_must (refine wpList_buf rfl _ _ rfl w.heap.size _ _ rfl HB.out (sepS k) rfl (by rw [← bl_length (sepS k), ← List.length_append, Hse.out]; omega) hB ?_))
              intro v3 w3 hb3 hg3
              rw [Hse.out] at hb3
              have HM3 := hidden (HM.out.grown HB.out hg3)
              clear hg3 HB HM hB Hse
              generalize hL1 : L ++ sepO k = L1 at *
              have HL1 := hidden hL1
              have HB3 := hidden hb3
              have hB := HM3.out.base
              clear hb3 hL1
              go_wp2_with (at_builtin; go_must (refine wpList_buf1 rfl _ _ rfl w.heap.size _ _ rfl HB3.out b[k] rfl (by omega) hB ?_))
              intro v4 w4 hb4 hg4
              have HM4 := hidden ((HM3.out.alloc _).grown (HB3.out.alloc _) hg4)
              have hl2 : (L1 ++ [b[k]]).length ≤ a.size + 19 * k + 4 := by rw [List.length_append, List.length_singleton]; omega
              generalize hL2 : L1 ++ [b[k]] = L2 at *
              have HL2 := hidden hL2
              have HB4 := hidden hb4
              clear hb4 hL2 hg4 HB3 HM3 hB
              have hB := HM4.out.base
              go_wp2_with (at_builtin; go_must (refine wpList_buf rfl _ _ rfl w.heap.size _ _ rfl HB4.out ⟨#[231, 177, 187]⟩ rfl (by have e : (⟨#[231, 177, 187]⟩ : ByteArray).size = 3 := rfl; omega) hB ?_))
              intro v5 w5 hb5 hg5
              have HM5 := hidden (HM4.out.grown HB4.out hg5)
              have hl3 : (L2 ++ lei).length ≤ a.size + 19 * k + 7 := by rw [List.length_append]; have e : lei.length = 3 := rfl; omega
              have hb5' : Buf w.heap.size w5 v5 (L2 ++ lei) := hb5
              generalize hL3 : L2 ++ lei = L3 at *
              have HL3 := hidden hL3
              have HB5 := hidden hb5'
              clear hb5 hb5' hL3 hg5 HB4 HM4 hB
              have hB := HM5.out.base
              by_cases hlast : k + 1 = b.size
              · have i3 : ((k : Int) == (b.size : Int) - 1) = true := by
                  have e : (k : Int) = (b.size : Int) - 1 := by omega
                  simpa using e
                go_wp2_with (at_builtin; go_must (refine wpList_buf rfl _ _ rfl w.heap.size _ _ rfl HB5.out ⟨#[229, 159, 186, 233, 135, 145, 228, 187, 189, 233, 162, 157]⟩ rfl (by have e : (⟨#[229, 159, 186, 233, 135, 145, 228, 187, 189, 233, 162, 157]⟩ : ByteArray).size = 12 := rfl; omega) hB ?_))
                intro v6 w6 hb6 hg6
                have HM6 := hidden (HM5.out.grown HB5.out hg6)
                have hT : tailB b.size k = jj := by unfold tailB; rw [if_pos hlast]
                have hb6' : Buf w.heap.size w6 v6 (L3 ++ jj) := hb6
                have hfin : L3 ++ jj = bl a ++ labTo b (k + 1) := by
                  rw [← HL3.out, ← HL2.out, ← HL1.out, ← HL.out, ← Hlet.out]; exact lab_more a b k _ hT
                rw [hfin] at hb6'
                have HB6 := hidden hb6'
                clear hb6 hb6' hg6 hfin hT HB5 HM5 hB HL3 HL2 HL1
                by_cases hk26 : k < 26
                · have i6 : (k : Int) < 26 := by omega
                  have hen : (bl a ++ labTo b (k + 1)).length = enP a.size b k := by rw [List.length_append, bl_length]; rfl
                  obtain ⟨av, cv, hv⟩ := HB6.out.slice
                  rw [hen] at hv
                  subst hv
                  clear hen
                  have hm0 : min k 26 = k := by omega
                  have hm1 : min (k + 1) 26 = k + 1 := by omega
                  have hdl := du_length (letU b) k
                  rw [hm0] at HSe
                  rw [hm0]
                  have hsee := HSe.out.see b[k] hup.1 hup.2
                  have hcell : w6.cell? ⟨o + 1, b[k].toNat - 65, none⟩ = some (.bool (decide (b[k] ∈ du (letU b) k))) := by
                    rw [cell_of_row _ _ _ _ _ _ HM6.out.see]; exact hsee
                  clear hsee hev
                  have hu0 := hup.1
                  have hu9 := hup.2
                  by_cases hin : b[k] ∈ du (letU b) k
                  · rw [decide_eq_true hin] at hcell
                    have hdu : du (letU b) (k + 1) = du (letU b) k := by rw [du, Hlet.out, if_pos hin]
                    have HN : Hid (LState w w6 a b o (.slice av (enP a.size b k) cv) (.int .i64 ((du (letU b) k).length : Nat)) (.int .i64 (enP a.size b k : Nat)) (k + 1)) := by
                      unfold LState
                      rw [hm1, hdu]
                      exact ⟨oa, sa, rfl, (fun _ => rfl), HB6.out, HM6.out, HSe.out⟩
                    clear hm0 hm1 HB6 HM6 HSe hin hdu Hlet
                    generalize (du (letU b) k).length = N at *
                    generalize enP a.size b k = E at *
                    go_wp2
                    go_roundw
                    case rel => exact ⟨k + 1, by omega, by go_num, HN.out⟩
                    case measure => simp [intOf]; omega
                  · rw [decide_eq_false hin] at hcell
                    have hdu : du (letU b) (k + 1) = du (letU b) k ++ [b[k]] := by rw [du, Hlet.out, if_neg hin]
                    have HN : Hid (LState w ((w6.setCell ⟨o + 1, b[k].toNat - 65, none⟩ (.bool true)).setCell ⟨o, (du (letU b) k).length, none⟩ (.int .u8 (b[k].toNat : Int))) a b o (.slice av (enP a.size b k) cv) (.int .i64 (((du (letU b) k).length + 1 : Nat) : Int)) (.int .i64 (enP a.size b k : Nat)) (k + 1)) := by
                      unfold LState
                      rw [hm1, hdu]
                      have hM1 := HM6.out.put_seen (b[k].toNat - 65) (.bool true)
                      have hB1 := HB6.out.put (i := b[k].toNat - 65) HM6.out.see (by decide) (.bool true)
                      refine ⟨_, _, by rw [List.length_append]; rfl, (fun _ => rfl), hB1.put hM1.ord (by decide) _, hM1.put_order _ _, HSe.out.add b[k] hu0 hu9 (by omega)⟩
                    have hc2 : ∃ x, (w6.setCell ⟨o + 1, b[k].toNat - 65, none⟩ (.bool true)).cell? ⟨o, (du (letU b) k).length, none⟩ = some x := by
                      rw [cell_of_row _ _ _ _ _ _ (HM6.out.put_seen (b[k].toNat - 65) (.bool true)).ord]
                      have hn := HSe.out.on
                      exact ⟨_, Array.getElem?_eq_getElem (by omega)⟩
                    obtain ⟨x2, hc2⟩ := hc2
                    have hf1 : w6.frozen? ⟨o + 1, b[k].toNat - 65, none⟩ = false := frozen_row HM6.out.see _
                    have hf2 : w6.frozen? ⟨o, (du (letU b) k).length, none⟩ = false := frozen_row HM6.out.ord _
                    clear hm0 hm1 HB6 HM6 HSe hin hdu Hlet
                    generalize (du (letU b) k).length = N at *
                    generalize enP a.size b k = E at *
                    have hN26 : (N : Int) < 26 := by omega
                    go_wp2
                    go_roundw
                    case rel => exact ⟨k + 1, by omega, by go_num, HN.out⟩
                    case measure => simp [intOf]; omega
                · have i6 : ¬ ((k : Int) < 26) := by omega
                  have hm1 : min (k + 1) 26 = min k 26 := by omega
                  have hev' := hev (by omega)
                  subst hev'
                  have HN : Hid (LState w w6 a b o v6 (.int .i64 ((du (letU b) (min k 26)).length : Nat)) (.int .i64 (enP a.size b (min k 26 - 1) : Nat)) (k + 1)) := by
                    unfold LState
                    rw [hm1]
                    exact ⟨oa, sa, rfl, (fun _ => rfl), HB6.out, HM6.out, HSe.out⟩
                  clear hm1 HB6 HM6 HSe hev
                  generalize (du (letU b) (min k 26)).length = N at *
                  generalize enP a.size b (min k 26 - 1) = E at *
                  go_wp2
                  go_roundw
                  case rel => exact ⟨k + 1, by omega, by go_num, HN.out⟩
                  case measure => simp [intOf]; omega
              · have i3 : ((k : Int) == (b.size : Int) - 1) = false := by
                  have e : (k : Int) ≠ (b.size : Int) - 1 := by omega
                  simpa using e
                by_cases hodd : k % 2 = 1
                · have i4 : ((k : Int).tmod 2 == 1) = true := by
                    have e : (k : Int).tmod 2 = 1 := by rw [Int.tmod_eq_emod_of_nonneg (by omega)]; omega
                    rw [e]; rfl
                  have i5 : ((k : Int) % 2 == 1) = true := by
                    have e : (k : Int) % 2 = 1 := by omega
                    rw [e]; rfl
                  go_wp2_with (at_builtin; go_must (refine wpList_buf rfl _ _ rfl w.heap.size _ _ rfl HB5.out ⟨#[228, 187, 189, 233, 162, 157]⟩ rfl (by have e : (⟨#[228, 187, 189, 233, 162, 157]⟩ : ByteArray).size = 6 := rfl; omega) hB ?_))
                  intro v6 w6 hb6 hg6
                  have HM6 := hidden (HM5.out.grown HB5.out hg6)
                  have hT : tailB b.size k = fe := by unfold tailB; rw [if_neg hlast, if_pos hodd]
                  have hb6' : Buf w.heap.size w6 v6 (L3 ++ fe) := hb6
                  have hfin : L3 ++ fe = bl a ++ labTo b (k + 1) := by
                    rw [← HL3.out, ← HL2.out, ← HL1.out, ← HL.out, ← Hlet.out]; exact lab_more a b k _ hT
                  rw [hfin] at hb6'
                  have HB6 := hidden hb6'
                  clear hb6 hb6' hg6 hfin hT HB5 HM5 hB HL3 HL2 HL1 i4 i5
                  by_cases hk26 : k < 26
                  · have i6 : (k : Int) < 26 := by omega
                    have hen : (bl a ++ labTo b (k + 1)).length = enP a.size b k := by rw [List.length_append, bl_length]; rfl
                    obtain ⟨av, cv, hv⟩ := HB6.out.slice
                    rw [hen] at hv
                    subst hv
                    clear hen
                    have hm0 : min k 26 = k := by omega
                    have hm1 : min (k + 1) 26 = k + 1 := by omega
                    have hdl := du_length (letU b) k
                    rw [hm0] at HSe
                    rw [hm0]
                    have hsee := HSe.out.see b[k] hup.1 hup.2
                    have hcell : w6.cell? ⟨o + 1, b[k].toNat - 65, none⟩ = some (.bool (decide (b[k] ∈ du (letU b) k))) := by
                      rw [cell_of_row _ _ _ _ _ _ HM6.out.see]; exact hsee
                    clear hsee hev
                    have hu0 := hup.1
                    have hu9 := hup.2
                    by_cases hin : b[k] ∈ du (letU b) k
                    · rw [decide_eq_true hin] at hcell
                      have hdu : du (letU b) (k + 1) = du (letU b) k := by rw [du, Hlet.out, if_pos hin]
                      have HN : Hid (LState w w6 a b o (.slice av (enP a.size b k) cv) (.int .i64 ((du (letU b) k).length : Nat)) (.int .i64 (enP a.size b k : Nat)) (k + 1)) := by
                        unfold LState
                        rw [hm1, hdu]
                        exact ⟨oa, sa, rfl, (fun _ => rfl), HB6.out, HM6.out, HSe.out⟩
                      clear hm0 hm1 HB6 HM6 HSe hin hdu Hlet
                      generalize (du (letU b) k).length = N at *
                      generalize enP a.size b k = E at *
                      go_wp2
                      go_roundw
                      case rel => exact ⟨k + 1, by omega, by go_num, HN.out⟩
                      case measure => simp [intOf]; omega
                    · rw [decide_eq_false hin] at hcell
                      have hdu : du (letU b) (k + 1) = du (letU b) k ++ [b[k]] := by rw [du, Hlet.out, if_neg hin]
                      have HN : Hid (LState w ((w6.setCell ⟨o + 1, b[k].toNat - 65, none⟩ (.bool true)).setCell ⟨o, (du (letU b) k).length, none⟩ (.int .u8 (b[k].toNat : Int))) a b o (.slice av (enP a.size b k) cv) (.int .i64 (((du (letU b) k).length + 1 : Nat) : Int)) (.int .i64 (enP a.size b k : Nat)) (k + 1)) := by
                        unfold LState
                        rw [hm1, hdu]
                        have hM1 := HM6.out.put_seen (b[k].toNat - 65) (.bool true)
                        have hB1 := HB6.out.put (i := b[k].toNat - 65) HM6.out.see (by decide) (.bool true)
                        refine ⟨_, _, by rw [List.length_append]; rfl, (fun _ => rfl), hB1.put hM1.ord (by decide) _, hM1.put_order _ _, HSe.out.add b[k] hu0 hu9 (by omega)⟩
                      have hc2 : ∃ x, (w6.setCell ⟨o + 1, b[k].toNat - 65, none⟩ (.bool true)).cell? ⟨o, (du (letU b) k).length, none⟩ = some x := by
                        rw [cell_of_row _ _ _ _ _ _ (HM6.out.put_seen (b[k].toNat - 65) (.bool true)).ord]
                        have hn := HSe.out.on
                        exact ⟨_, Array.getElem?_eq_getElem (by omega)⟩
                      obtain ⟨x2, hc2⟩ := hc2
                      have hf1 : w6.frozen? ⟨o + 1, b[k].toNat - 65, none⟩ = false := frozen_row HM6.out.see _
                      have hf2 : w6.frozen? ⟨o, (du (letU b) k).length, none⟩ = false := frozen_row HM6.out.ord _
                      clear hm0 hm1 HB6 HM6 HSe hin hdu Hlet
                      generalize (du (letU b) k).length = N at *
                      generalize enP a.size b k = E at *
                      have hN26 : (N : Int) < 26 := by omega
                      go_wp2
                      go_roundw
                      case rel => exact ⟨k + 1, by omega, by go_num, HN.out⟩
                      case measure => simp [intOf]; omega
                  · have i6 : ¬ ((k : Int) < 26) := by omega
                    have hm1 : min (k + 1) 26 = min k 26 := by omega
                    have hev' := hev (by omega)
                    subst hev'
                    have HN : Hid (LState w w6 a b o v6 (.int .i64 ((du (letU b) (min k 26)).length : Nat)) (.int .i64 (enP a.size b (min k 26 - 1) : Nat)) (k + 1)) := by
                      unfold LState
                      rw [hm1]
                      exact ⟨oa, sa, rfl, (fun _ => rfl), HB6.out, HM6.out, HSe.out⟩
                    clear hm1 HB6 HM6 HSe hev
                    generalize (du (letU b) (min k 26)).length = N at *
                    generalize enP a.size b (min k 26 - 1) = E at *
                    go_wp2
                    go_roundw
                    case rel => exact ⟨k + 1, by omega, by go_num, HN.out⟩
                    case measure => simp [intOf]; omega
                · have i4 : ((k : Int).tmod 2 == 1) = false := by
                    have e : (k : Int).tmod 2 = 0 := by rw [Int.tmod_eq_emod_of_nonneg (by omega)]; omega
                    rw [e]; rfl
                  have i5 : ((k : Int) % 2 == 1) = false := by
                    have e : (k : Int) % 2 = 0 := by omega
                    rw [e]; rfl
                  have hT : tailB b.size k = [] := by unfold tailB; rw [if_neg hlast, if_neg hodd]
                  have hfin : L3 = bl a ++ labTo b (k + 1) := by
                    have := lab_more a b k _ hT
                    rw [List.append_nil] at this
                    rw [← HL3.out, ← HL2.out, ← HL1.out, ← HL.out, ← Hlet.out]; exact this
                  have HM6 := hidden HM5.out
                  have HB6 := hidden HB5.out
                  rw [hfin] at HB6
                  clear hfin hT HB5 HM5 hB HL3 HL2 HL1
                  by_cases hk26 : k < 26
                  · have i6 : (k : Int) < 26 := by omega
                    have hen : (bl a ++ labTo b (k + 1)).length = enP a.size b k := by rw [List.length_append, bl_length]; rfl
                    obtain ⟨av, cv, hv⟩ := HB6.out.slice
                    rw [hen] at hv
                    subst hv
                    clear hen
                    have hm0 : min k 26 = k := by omega
                    have hm1 : min (k + 1) 26 = k + 1 := by omega
                    have hdl := du_length (letU b) k
                    rw [hm0] at HSe
                    rw [hm0]
                    have hsee := HSe.out.see b[k] hup.1 hup.2
                    have hcell : w5.cell? ⟨o + 1, b[k].toNat - 65, none⟩ = some (.bool (decide (b[k] ∈ du (letU b) k))) := by
                      rw [cell_of_row _ _ _ _ _ _ HM6.out.see]; exact hsee
                    clear hsee hev
                    have hu0 := hup.1
                    have hu9 := hup.2
                    by_cases hin : b[k] ∈ du (letU b) k
                    · rw [decide_eq_true hin] at hcell
                      have hdu : du (letU b) (k + 1) = du (letU b) k := by rw [du, Hlet.out, if_pos hin]
                      have HN : Hid (LState w w5 a b o (.slice av (enP a.size b k) cv) (.int .i64 ((du (letU b) k).length : Nat)) (.int .i64 (enP a.size b k : Nat)) (k + 1)) := by
                        unfold LState
                        rw [hm1, hdu]
                        exact ⟨oa, sa, rfl, (fun _ => rfl), HB6.out, HM6.out, HSe.out⟩
                      clear hm0 hm1 HB6 HM6 HSe hin hdu Hlet
                      generalize (du (letU b) k).length = N at *
                      generalize enP a.size b k = E at *
                      go_wp2
                      go_roundw
                      case rel => exact ⟨k + 1, by omega, by go_num, HN.out⟩
                      case measure => simp [intOf]; omega
                    · rw [decide_eq_false hin] at hcell
                      have hdu : du (letU b) (k + 1) = du (letU b) k ++ [b[k]] := by rw [du, Hlet.out, if_neg hin]
                      have HN : Hid (LState w ((w5.setCell ⟨o + 1, b[k].toNat - 65, none⟩ (.bool true)).setCell ⟨o, (du (letU b) k).length, none⟩ (.int .u8 (b[k].toNat : Int))) a b o (.slice av (enP a.size b k) cv) (.int .i64 (((du (letU b) k).length + 1 : Nat) : Int)) (.int .i64 (enP a.size b k : Nat)) (k + 1)) := by
                        unfold LState
                        rw [hm1, hdu]
                        have hM1 := HM6.out.put_seen (b[k].toNat - 65) (.bool true)
                        have hB1 := HB6.out.put (i := b[k].toNat - 65) HM6.out.see (by decide) (.bool true)
                        refine ⟨_, _, by rw [List.length_append]; rfl, (fun _ => rfl), hB1.put hM1.ord (by decide) _, hM1.put_order _ _, HSe.out.add b[k] hu0 hu9 (by omega)⟩
                      have hc2 : ∃ x, (w5.setCell ⟨o + 1, b[k].toNat - 65, none⟩ (.bool true)).cell? ⟨o, (du (letU b) k).length, none⟩ = some x := by
                        rw [cell_of_row _ _ _ _ _ _ (HM6.out.put_seen (b[k].toNat - 65) (.bool true)).ord]
                        have hn := HSe.out.on
                        exact ⟨_, Array.getElem?_eq_getElem (by omega)⟩
                      obtain ⟨x2, hc2⟩ := hc2
                      have hf1 : w5.frozen? ⟨o + 1, b[k].toNat - 65, none⟩ = false := frozen_row HM6.out.see _
                      have hf2 : w5.frozen? ⟨o, (du (letU b) k).length, none⟩ = false := frozen_row HM6.out.ord _
                      clear hm0 hm1 HB6 HM6 HSe hin hdu Hlet
                      generalize (du (letU b) k).length = N at *
                      generalize enP a.size b k = E at *
                      have hN26 : (N : Int) < 26 := by omega
                      go_wp2
                      go_roundw
                      case rel => exact ⟨k + 1, by omega, by go_num, HN.out⟩
                      case measure => simp [intOf]; omega
                  · have i6 : ¬ ((k : Int) < 26) := by omega
                    have hm1 : min (k + 1) 26 = min k 26 := by omega
                    have hev' := hev (by omega)
                    subst hev'
                    have HN : Hid (LState w w5 a b o v5 (.int .i64 ((du (letU b) (min k 26)).length : Nat)) (.int .i64 (enP a.size b (min k 26 - 1) : Nat)) (k + 1)) := by
                      unfold LState
                      rw [hm1]
                      exact ⟨oa, sa, rfl, (fun _ => rfl), HB6.out, HM6.out, HSe.out⟩
                    clear hm1 HB6 HM6 HSe hev
                    generalize (du (letU b) (min k 26)).length = N at *
                    generalize enP a.size b (min k 26 - 1) = E at *
                    go_wp2
                    go_roundw
                    case rel => exact ⟨k + 1, by omega, by go_num, HN.out⟩
                    case measure => simp [intOf]; omega
            · have i2 : ¬ ((0 : Int) < (k : Int)) := by omega
              have hb3 : Buf w.heap.size wr u8 (L ++ sepO k) := by
                have e : sepO k = [] := by unfold sepO; rw [if_pos (by omega)]
                rw [e, List.append_nil]; exact HB.out
              have HM3 := hidden HM.out
              clear HB HM hB
              generalize hL1 : L ++ sepO k = L1 at *
              have HL1 := hidden hL1
              have HB3 := hidden hb3
              have hB := HM3.out.base
              clear hb3 hL1
              go_wp2_with (at_builtin; go_must (refine wpList_buf1 rfl _ _ rfl w.heap.size _ _ rfl HB3.out b[k] rfl (by omega) hB ?_))
              intro v4 w4 hb4 hg4
              have HM4 := hidden ((HM3.out.alloc _).grown (HB3.out.alloc _) hg4)
              have hl2 : (L1 ++ [b[k]]).length ≤ a.size + 19 * k + 4 := by rw [List.length_append, List.length_singleton]; omega
              generalize hL2 : L1 ++ [b[k]] = L2 at *
              have HL2 := hidden hL2
              have HB4 := hidden hb4
              clear hb4 hL2 hg4 HB3 HM3 hB
              have hB := HM4.out.base
              go_wp2_with (at_builtin; go_must (refine wpList_buf rfl _ _ rfl w.heap.size _ _ rfl HB4.out ⟨#[231, 177, 187]⟩ rfl (by have e : (⟨#[231, 177, 187]⟩ : ByteArray).size = 3 := rfl; omega) hB ?_))
              intro v5 w5 hb5 hg5
              have HM5 := hidden (HM4.out.grown HB4.out hg5)
              have hl3 : (L2 ++ lei).length ≤ a.size + 19 * k + 7 := by rw [List.length_append]; have e : lei.length = 3 := rfl; omega
              have hb5' : Buf w.heap.size w5 v5 (L2 ++ lei) := hb5
              generalize hL3 : L2 ++ lei = L3 at *
              have HL3 := hidden hL3
              have HB5 := hidden hb5'
              clear hb5 hb5' hL3 hg5 HB4 HM4 hB
              have hB := HM5.out.base
              by_cases hlast : k + 1 = b.size
              · have i3 : ((k : Int) == (b.size : Int) - 1) = true := by
                  have e : (k : Int) = (b.size : Int) - 1 := by omega
                  simpa using e
                go_wp2_with (at_builtin; go_must (refine wpList_buf rfl _ _ rfl w.heap.size _ _ rfl HB5.out ⟨#[229, 159, 186, 233, 135, 145, 228, 187, 189, 233, 162, 157]⟩ rfl (by have e : (⟨#[229, 159, 186, 233, 135, 145, 228, 187, 189, 233, 162, 157]⟩ : ByteArray).size = 12 := rfl; omega) hB ?_))
                intro v6 w6 hb6 hg6
                have HM6 := hidden (HM5.out.grown HB5.out hg6)
                have hT : tailB b.size k = jj := by unfold tailB; rw [if_pos hlast]
                have hb6' : Buf w.heap.size w6 v6 (L3 ++ jj) := hb6
                have hfin : L3 ++ jj = bl a ++ labTo b (k + 1) := by
                  rw [← HL3.out, ← HL2.out, ← HL1.out, ← HL.out, ← Hlet.out]; exact lab_more a b k _ hT
                rw [hfin] at hb6'
                have HB6 := hidden hb6'
                clear hb6 hb6' hg6 hfin hT HB5 HM5 hB HL3 HL2 HL1
                have hk26 : k < 26 := by omega
                have i6 : (k : Int) < 26 := by omega
                have hen : (bl a ++ labTo b (k + 1)).length = enP a.size b k := by rw [List.length_append, bl_length]; rfl
                obtain ⟨av, cv, hv⟩ := HB6.out.slice
                rw [hen] at hv
                subst hv
                clear hen
                have hm0 : min k 26 = k := by omega
                have hm1 : min (k + 1) 26 = k + 1 := by omega
                have hdl := du_length (letU b) k
                rw [hm0] at HSe
                rw [hm0]
                have hsee := HSe.out.see b[k] hup.1 hup.2
                have hcell : w6.cell? ⟨o + 1, b[k].toNat - 65, none⟩ = some (.bool (decide (b[k] ∈ du (letU b) k))) := by
                  rw [cell_of_row _ _ _ _ _ _ HM6.out.see]; exact hsee
                clear hsee hev
                have hu0 := hup.1
                have hu9 := hup.2
                have hin : ¬ (b[k] ∈ du (letU b) k) := by
                  have e : k = 0 := by omega
                  have e2 : du (letU b) k = [] := by rw [e]; rfl
                  rw [e2]; simp
                rw [decide_eq_false hin] at hcell
                have hdu : du (letU b) (k + 1) = du (letU b) k ++ [b[k]] := by rw [du, Hlet.out, if_neg hin]
                have HN : Hid (LState w ((w6.setCell ⟨o + 1, b[k].toNat - 65, none⟩ (.bool true)).setCell ⟨o, (du (letU b) k).length, none⟩ (.int .u8 (b[k].toNat : Int))) a b o (.slice av (enP a.size b k) cv) (.int .i64 (((du (letU b) k).length + 1 : Nat) : Int)) (.int .i64 (enP a.size b k : Nat)) (k + 1)) := by
                  unfold LState
                  rw [hm1, hdu]
                  have hM1 := HM6.out.put_seen (b[k].toNat - 65) (.bool true)
                  have hB1 := HB6.out.put (i := b[k].toNat - 65) HM6.out.see (by decide) (.bool true)
                  refine ⟨_, _, by rw [List.length_append]; rfl, (fun _ => rfl), hB1.put hM1.ord (by decide) _, hM1.put_order _ _, HSe.out.add b[k] hu0 hu9 (by omega)⟩
                have hc2 : ∃ x, (w6.setCell ⟨o + 1, b[k].toNat - 65, none⟩ (.bool true)).cell? ⟨o, (du (letU b) k).length, none⟩ = some x := by
                  rw [cell_of_row _ _ _ _ _ _ (HM6.out.put_seen (b[k].toNat - 65) (.bool true)).ord]
                  have hn := HSe.out.on
                  exact ⟨_, Array.getElem?_eq_getElem (by omega)⟩
                obtain ⟨x2, hc2⟩ := hc2
                have hf1 : w6.frozen? ⟨o + 1, b[k].toNat - 65, none⟩ = false := frozen_row HM6.out.see _
                have hf2 : w6.frozen? ⟨o, (du (letU b) k).length, none⟩ = false := frozen_row HM6.out.ord _
                clear hm0 hm1 HB6 HM6 HSe hin hdu Hlet
                generalize (du (letU b) k).length = N at *
                generalize enP a.size b k = E at *
                have hN26 : (N : Int) < 26 := by omega
                go_wp2
                go_roundw
                case rel => exact ⟨k + 1, by omega, by go_num, HN.out⟩
                case measure => simp [intOf]; omega
              · have i3 : ((k : Int) == (b.size : Int) - 1) = false := by
                  have e : (k : Int) ≠ (b.size : Int) - 1 := by omega
                  simpa using e
                have hodd : ¬ (k % 2 = 1) := by omega
                have i4 : ((k : Int).tmod 2 == 1) = false := by
                  have e : (k : Int).tmod 2 = 0 := by rw [Int.tmod_eq_emod_of_nonneg (by omega)]; omega
                  rw [e]; rfl
                have i5 : ((k : Int) % 2 == 1) = false := by
                  have e : (k : Int) % 2 = 0 := by omega
                  rw [e]; rfl
                have hT : tailB b.size k = [] := by unfold tailB; rw [if_neg hlast, if_neg hodd]
                have hfin : L3 = bl a ++ labTo b (k + 1) := by
                  have := lab_more a b k _ hT
                  rw [List.append_nil] at this
                  rw [← HL3.out, ← HL2.out, ← HL1.out, ← HL.out, ← Hlet.out]; exact this
                have HM6 := hidden HM5.out
                have HB6 := hidden HB5.out
                rw [hfin] at HB6
                clear hfin hT HB5 HM5 hB HL3 HL2 HL1
                have hk26 : k < 26 := by omega
                have i6 : (k : Int) < 26 := by omega
                have hen : (bl a ++ labTo b (k + 1)).length = enP a.size b k := by rw [List.length_append, bl_length]; rfl
                obtain ⟨av, cv, hv⟩ := HB6.out.slice
                rw [hen] at hv
                subst hv
                clear hen
                have hm0 : min k 26 = k := by omega
                have hm1 : min (k + 1) 26 = k + 1 := by omega
                have hdl := du_length (letU b) k
                rw [hm0] at HSe
                rw [hm0]
                have hsee := HSe.out.see b[k] hup.1 hup.2
                have hcell : w5.cell? ⟨o + 1, b[k].toNat - 65, none⟩ = some (.bool (decide (b[k] ∈ du (letU b) k))) := by
                  rw [cell_of_row _ _ _ _ _ _ HM6.out.see]; exact hsee
                clear hsee hev
                have hu0 := hup.1
                have hu9 := hup.2
                have hin : ¬ (b[k] ∈ du (letU b) k) := by
                  have e : k = 0 := by omega
                  have e2 : du (letU b) k = [] := by rw [e]; rfl
                  rw [e2]; simp
                rw [decide_eq_false hin] at hcell
                have hdu : du (letU b) (k + 1) = du (letU b) k ++ [b[k]] := by rw [du, Hlet.out, if_neg hin]
                have HN : Hid (LState w ((w5.setCell ⟨o + 1, b[k].toNat - 65, none⟩ (.bool true)).setCell ⟨o, (du (letU b) k).length, none⟩ (.int .u8 (b[k].toNat : Int))) a b o (.slice av (enP a.size b k) cv) (.int .i64 (((du (letU b) k).length + 1 : Nat) : Int)) (.int .i64 (enP a.size b k : Nat)) (k + 1)) := by
                  unfold LState
                  rw [hm1, hdu]
                  have hM1 := HM6.out.put_seen (b[k].toNat - 65) (.bool true)
                  have hB1 := HB6.out.put (i := b[k].toNat - 65) HM6.out.see (by decide) (.bool true)
                  refine ⟨_, _, by rw [List.length_append]; rfl, (fun _ => rfl), hB1.put hM1.ord (by decide) _, hM1.put_order _ _, HSe.out.add b[k] hu0 hu9 (by omega)⟩
                have hc2 : ∃ x, (w5.setCell ⟨o + 1, b[k].toNat - 65, none⟩ (.bool true)).cell? ⟨o, (du (letU b) k).length, none⟩ = some x := by
                  rw [cell_of_row _ _ _ _ _ _ (HM6.out.put_seen (b[k].toNat - 65) (.bool true)).ord]
                  have hn := HSe.out.on
                  exact ⟨_, Array.getElem?_eq_getElem (by omega)⟩
                obtain ⟨x2, hc2⟩ := hc2
                have hf1 : w5.frozen? ⟨o + 1, b[k].toNat - 65, none⟩ = false := frozen_row HM6.out.see _
                have hf2 : w5.frozen? ⟨o, (du (letU b) k).length, none⟩ = false := frozen_row HM6.out.ord _
                clear hm0 hm1 HB6 HM6 HSe hin hdu Hlet
                generalize (du (letU b) k).length = N at *
                generalize enP a.size b k = E at *
                have hN26 : (N : Int) < 26 := by omega
                go_wp2
                go_roundw
                case rel => exact ⟨k + 1, by omega, by go_num, HN.out⟩
                case measure => simp [intOf]; omega
          · have hkE : k = b.size := by omega
            subst hkE
            have hev' := hev h0
            subst hev'
            have hB := HM.out.base
            have hLl : L.length ≤ a.size + 19 * b.size := by rw [← HL.out, List.length_append, bl_length]; have := lab_len b b.size; omega
            go_wp2_with (at_builtin; go_must (refine wpList_buf rfl _ _ rfl w.heap.size _ _ rfl HB.out c rfl (by omega) hB ?_))
            intro v3 w3 hb3 hg3
            have HM3 := hidden (HM.out.grown HB.out hg3)
            have hbS : bl ⟨(L ++ bl c).toArray⟩ = bl a ++ (labTo b b.size ++ bl c) := by
              rw [← List.append_assoc, HL.out]; rfl
            have hlc : (L ++ bl c).length = L.length + c.size := by rw [List.length_append, bl_length]
            have hcv := hb3.text (by have e1 : L.length = a.size + (labTo b b.size).length := by { rw [← HL.out, List.length_append, bl_length] }; have e2 := lab_pos b h0; omega)
            generalize hS : (⟨(L ++ bl c).toArray⟩ : ByteArray) = S at *
            have hSs : S.size ≤ 4194304 := by
              have e1 := bl_length S
              rw [← hS] at e1
              have e2 : (bl ⟨(L ++ bl c).toArray⟩).length = (L ++ bl c).length := rfl
              rw [e2, hS] at e1
              omega
            have hlab := written S a b c hbS h0 HU.out HNS.out
            have hst0 : stP a.size b 0 = a.size := by simp [stP, labTo, sepO]
            have hpre : ∀ (_ : 0 < a.size) (h1 : a.size - 1 < S.size), letB S[a.size - 1].toNat = false := by
              intro q1 q2
              rw [pre_of S a _ hbS q2 (by omega)]
              exact HPre.out q1 (by omega)
            have HC := hidden (zzclasses14 S a.size b.size (stP a.size b) (enP a.size b) (letU b) w3 hSs h0 hst0 hlab hpre)
            rw [Nat.min_comm 26 b.size] at HC
            have hK : 0 < (du (letU b) (min b.size 26)).length := by
              have : min b.size 26 = (min b.size 26 - 1) + 1 := by omega
              rw [this]; exact du_pos _ _
            have hK2 := du_length (letU b) (min b.size 26)
            generalize enP a.size b (min b.size 26 - 1) = E at *
            generalize hdd : du (letU b) (min b.size 26) = D at *
            have Hcp : Hid (ClassPost (letU b) (min b.size 26) E w3 = ClassPost (letU b) (min b.size 26) E w3) := rfl
            clear hS hbS hlab hpre hst0 hb3 hg3 HB HM hB hev HL hLl hlc hsh Hcp
            go_wp2_with fail
            refine HC.out.mono ?_
            rintro e w' ⟨av, cv, rfl, hsr, hnone, hbel⟩
            rw [hdd] at hsr
            rw [hdd]
            clear HC hcv
            have hord : w'.heap[o]? = some (.cells oa 34 (0, 0)) := by
              rw [hbel.block o (some_lt HM3.out.ord)]; exact HM3.out.ord
            have hbel2 := HM3.out.bel.trans (hbel.mono HM3.out.base)
            have Hbel := hidden hbel2
            have Hsr := hidden hsr
            have Hon := hidden HSe.out.on
            clear hbel hbel2 hsr HM3
            generalize hN : D.length = N at *
            go_wp2_with (refine wpList_load_held 34 (.tmp 9) rfl (by rfl) o rfl 34 oa (0, 0) _ hord Trym.underlying34 rfl (by rw [Hon.out]; exact Trym.size34) ?_)
            go_wp2_with fail
            refine (letters20 av N cv D oa w' (by omega) hK hN hnone Hsr.out HSe.out.ord).mono ?_
            rintro e w'' ⟨rfl, hbel3⟩
            have HF := hidden (Hbel.out.trans (hbel3.mono Hbel.out.size))
            clear hbel3 Hbel hord Hon Hsr HSe
            go_wp2
            go_ret
            exact ⟨rfl, HF.out⟩


end Go.Proofs.Qxb6604042aMods
