/-
  THE WALK over ZZWindowSumsAdd.
-/
import Derived.Test.Qxb6602788aModsAdd
namespace Go.Proofs.Qxb6602788aMods
open Go.RowKit
attribute [local go_sem] run_store_float

theorem Trym.info42 : (Trym.prog.info? 42).map (fun i => (i.zero, i.size, i.bytes)) = some (some (.agg #[.int .i64 0, .float .f64 0]), 2, 16) := by kernel_rfl

theorem made_flat (n : Nat) (ps : List (Int × Nat)) : (madeCells #[.int .i64 0, .float .f64 0] (n * 2)).toList = flat (pre (0, 0) n 0 ps) := by
  have e : (#[.int .i64 0, .float .f64 0] : Array Value) = #[ci (0, 0), ct (0, 0)] := rfl
  rw [e, flat2_replicate, pre_zero]

/-- Behind the first loop: the box holds a slice that owns ps. -/
def Copied (B : Nat) (w wr : World) (v : Value) (ps : List (Int × Nat)) : Prop :=
  wr.heap[B]? = some (.cells #[v] 51 (0, 0)) ∧ wr.ownsRow B 53 2 v ps.length (flat ps) ∧ Below B w wr ∧ B ≤ wr.heap.size

theorem addStep_pos {ps ps' : List (Int × Nat)} {i : Int} {t : Nat} (h : AddStep ps i t ps') : ∃ k, ps'.length = k + 1 ∧ k ≤ ps.length := by
  rcases h with ⟨qs, t0, r, rfl, _, rfl⟩ | ⟨_, rfl⟩
  · exact ⟨qs.length, by simp, by simp⟩
  · exact ⟨ps.length, by simp, Nat.le_refl _⟩

/-- The box, and the row that its slice owns, are as they were behind what writes other blocks. -/
theorem own_of_block {w w' : World} {base base' n gb c : Nat} {e : TypeId} {size : Nat} {xs : List Value} (h : w.ownsRow base e size (.slice (some ⟨gb, 0, none⟩) n c) n xs) (hb : w'.heap[gb]? = w.heap[gb]?) (hbase : base' ≤ gb) : w'.ownsRow base' e size (.slice (some ⟨gb, 0, none⟩) n c) n xs := by
  refine ⟨h.1, ?_⟩
  rcases h.2 with ⟨h1, _⟩ | ⟨g, cap, cur, h1, h2, h3, r⟩
  · cases h1
  · simp at h1
    obtain ⟨rfl, rfl⟩ := h1
    exact .inr ⟨gb, c, cur, rfl, hbase, by rw [hb]; exact h3, r⟩

set_option maxHeartbeats 2000000 in
theorem zzadd29_nil (idx : Int) (tok : Nat) (w : World) :
    Calls Trym.prog 29 #[.slice none 0 0, .int .i64 idx, .float .f64 tok] w fun e w' => ∃ a' n' c' ps', e = .returned (.slice a' n' c') ∧ AddStep [] idx tok ps' ∧ ARow w' a' n' ps' ∧ Below w.heap.size w w' := by
  have q1 := fun (w : World) (a : Option Addr) (n c : Nat) => run_neq_slice_nil_any (P := Trym.prog) w 38 42 a n c 0 0 Trym.underlying38
  obtain ⟨i0, hi, hz0, hz1, hz2⟩ := info_parts Trym.info42
  have hcopied : Copied w.heap.size w (w.alloc (.cells #[.slice none 0 0] 51)) (.slice none 0 0) [] := ⟨heap_alloc_new _ _, World.ownsRow_nil _ _ _ _, (Below.refl _ _).alloc (Nat.le_refl _) _, by simp⟩
  have HCo : Hid _ := hcopied
  clear hcopied
  go_enter Trym.func29, Trym.ntmps29
  go_wp2_with fail
  refine wp_loop_rounds 1 ?_
  rw [rounds_succ]
  go_wp2_with fail
  obtain ⟨k1, k2, k3, k4⟩ := HCo.out
  refine (add31 _ w.heap.size 0 _ idx tok [] _ (by omega) rfl k1 k2 k4 (Nat.le_refl _)).mono ?_
  rintro e w1 ⟨ps', hstep, v', rfl, hbox1, hown1, hb1⟩
  obtain ⟨m, hm, hmle⟩ := addStep_pos hstep
  rw [hm] at hown1
  obtain ⟨g1, c1, rfl⟩ := own_shape hown1
  have hB1 : Below w.heap.size w w1 := k3.trans hb1
  have hml : m ≤ 1000000 := Nat.le_trans hmle (by simp)
  have cb1 := cell_of_one hbox1
  have HBx : Hid _ := hbox1
  have HSt : Hid _ := hstep
  clear hbox1 hstep k1 k2 k3 k4 HCo hmle hb1
  have hby : i0.bytes * (m + 1) ≤ 281474976710656 := by rw [hz2]; omega
  have hsz := hB1.size
  go_wp2_with (at_make; refine wpList_make_full _ rfl _ _ 38 rfl w1.heap.size 42 i0 (.agg #[.int .i64 0, .float .f64 0]) 2 Trym.underlying38 hi hz0 hz1 _ _ _ _ (m + 1) rfl rfl (by simp) (by simp) hby (by unfold maxLen; omega) (Nat.le_refl _) ?_)
  intro w2 hown2 hgrow2
  rw [made_flat (m + 1) ps'] at hown2
  have hb2 : Below w1.heap.size w1 w2 := (Below.refl _ _).grown hgrow2 (Nat.le_refl _) (by intro k hk; cases hk)
  clear hgrow2
  go_wp2
  go_loopw [10] (fun i wr => ∃ k : Nat, k ≤ m + 1 ∧ i = .int .i64 k ∧ wr.ownsRow w1.heap.size 42 2 (.slice (some ⟨w1.heap.size, 0, none⟩) (m + 1) (m + 1)) (m + 1) (flat (pre (0, 0) (m + 1) k ps')) ∧ Below w1.heap.size w1 wr) (fun i _ => m + 1 - (intOf i).toNat)
  case atStart => exact ⟨0, Nat.zero_le _, rfl, hown2, hb2⟩
  case round =>
    obtain ⟨k, hk, rfl, hown, hb⟩ := hrel
    have cb := cell_later hb cb1
    by_cases hlt : k < m + 1
    · have hkl : k < ps'.length := by omega
      have r0 : wr.cell? ⟨g1, k * 2, none⟩ = some (.int .i64 ps'[k].1) := cell_later hb (by rw [hown1.cellAt (k * 2) (by omega), flat, flat2_get0 ci ct _ k hkl]; rfl)
      have r1 : wr.cell? ⟨g1, k * 2 + 1, none⟩ = some (.float .f64 ps'[k].2) := cell_later hb (by rw [hown1.cellAt (k * 2 + 1) (by omega), flat, flat2_get1 ci ct _ k hkl]; rfl)
      have hkp : k < (pre (0, 0) (m + 1) k ps').length := by rw [pre_length]; exact hlt
      have o0 : wr.cell? ⟨w1.heap.size, k * 2, none⟩ = some (.int .i64 (pre (0, 0) (m + 1) k ps')[k].1) := by rw [hown.cellAt (k * 2) (by omega), flat, flat2_get0 ci ct _ k hkp]; rfl
      have o1 : wr.cell? ⟨w1.heap.size, k * 2 + 1, none⟩ = some (.float .f64 (pre (0, 0) (m + 1) k ps')[k].2) := by rw [hown.cellAt (k * 2 + 1) (by omega), flat, flat2_get1 ci ct _ k hkp]; rfl
      have f0 := hown.frozenAt (k * 2)
      have f1 := hown.frozenAt (k * 2 + 1)
      have hst := ((hown.stored (k * 2) (ci ps'[k])).1.stored (k * 2 + 1) (ct ps'[k])).1
      rw [flat, flat2_set, pre_set (0, 0) (m + 1) k ps' hkl] at hst
      have hbb : Below w1.heap.size w1 ((wr.setCell ⟨w1.heap.size, k * 2, none⟩ (ci ps'[k])).setCell ⟨w1.heap.size, k * 2 + 1, none⟩ (ct ps'[k])) := (hb.setCell (Nat.le_refl _) _).setCell (Nat.le_refl _) _
      have H1 : Hid _ := hst
      have H2 : Hid _ := hbb
      clear hst hbb hown hb hown2 hb2 hown1 hB1
      generalize ps'[k] = q at *
      generalize (pre (0, 0) (m + 1) k ps')[k] = q' at *
      obtain ⟨qi, qt⟩ := q
      obtain ⟨qi', qt'⟩ := q'
      go_wp2
      go_region
      go_wp2
      go_roundw
      case rel => exact ⟨k + 1, by omega, by go_num, H1.out, H2.out.drew⟩
      case measure => simp [intOf]; omega
    · have hk' : k = m + 1 := by omega
      subst hk'
      rw [pre_all (0, 0) (m + 1) ps' hm] at hown
      have hbB : Below w.heap.size w wr := hB1.trans (hb.mono hsz)
      have HF : Hid _ := PRow.of_own hm hown
      have HB' : Hid _ := hbB
      clear hown hb hown2 hb2 hbB
      go_wp2
      go_ret
      exact ⟨_, _, _, ps', rfl, HSt.out, HF.out, HB'.out⟩
/-- The box behind the make of the row. -/
theorem made_box {w w2 : World} {O : Obj} (hgrow : (w.alloc O).grownBy w2 none) : w2.heap[w.heap.size]? = some O := by
  rw [hgrow.block w.heap.size (by simp) (by simp), heap_alloc_new]

set_option maxHeartbeats 4000000 in
theorem zzadd29_some (x : Addr) (n c : Nat) (ps : List (Int × Nat)) (idx : Int) (tok : Nat) (w : World) (hn : n ≤ 900000) (hr : ARow w (some x) n ps) :
    Calls Trym.prog 29 #[.slice (some x) n c, .int .i64 idx, .float .f64 tok] w fun e w' => ∃ a' n' c' ps', e = .returned (.slice a' n' c') ∧ AddStep ps idx tok ps' ∧ ARow w' a' n' ps' ∧ Below w.heap.size w w' := by
  have q1 := fun (w : World) (a : Option Addr) (n c : Nat) => run_neq_slice_nil_any (P := Trym.prog) w 38 42 a n c 0 0 Trym.underlying38
  obtain ⟨i0, hi, hz0, hz1, hz2⟩ := info_parts Trym.info42
  obtain ⟨i5, hi5, hy0, hy1, hy2⟩ := info_parts Trym.info53
  have hby5 : i5.bytes * n ≤ 281474976710656 := by rw [hy2]; omega
  obtain ⟨hpn, hr⟩ := hr
  go_enter Trym.func29, Trym.ntmps29
  go_wp2_with (at_make; refine wpList_make_full _ rfl _ _ 51 rfl w.heap.size 53 i5 (.agg #[.int .i64 0, .float .f64 0]) 2 Trym.underlying51 hi5 hy0 hy1 _ _ _ _ n rfl rfl rfl rfl hby5 (by unfold maxLen; omega) (by simp) ?_; intro w2 hown2 hgrow2; have hbox2 := made_box hgrow2; have cb2 := cell_of_one hbox2; have fb2 := free_of_one hbox2; have Hx2 : Hid _ := hbox2; clear hbox2)
  have hst : Copied w.heap.size w (w2.setCell ⟨w.heap.size, 0, none⟩ (.slice (some ⟨w.heap.size + 1, 0, none⟩) n n)) (.slice (some ⟨w.heap.size + 1, 0, none⟩) n n) (pre (0, 0) n 0 ps) := by
    have hbe : Below w.heap.size w w2 := ((Below.refl _ _).alloc (Nat.le_refl _) _).grown hgrow2 (by simp) (by intro k hk; cases hk)
    refine ⟨one_setCell Hx2.out, ?_, hbe.setCell (Nat.le_refl _) _, by simpa using hbe.size⟩
    rw [pre_length, ← made_flat n ps]
    refine ownsRow_setCell_other ?_ (by simp [Value.ownBlock]) _
    have e2 : (Value.agg #[.int .i64 0, .float .f64 0]).cells = #[.int .i64 0, .float .f64 0] := rfl
    rw [e2] at hown2
    simpa using hown2
  clear hown2 hgrow2 cb2 fb2 Hx2
  go_loopw [8] (fun i wr => ∃ k : Nat, k ≤ n ∧ i = .int .i64 k ∧ Copied w.heap.size w wr (.slice (some ⟨w.heap.size + 1, 0, none⟩) n n) (pre (0, 0) n k ps)) (fun i _ => n - (intOf i).toNat)
  case atStart => exact ⟨0, Nat.zero_le _, rfl, hst⟩
  case round =>
    obtain ⟨k, hk, rfl, hbox, hown, hb, hsz⟩ := hrel
    clear hst
    rw [pre_length] at hown
    by_cases hlt : k < n
    · have cb := cell_of_one hbox
      have hkl : k < ps.length := by omega
      obtain ⟨b, off, hx, hc⟩ := hr.resolve_left (by omega)
      obtain rfl := Option.some.inj hx
      have r0 : wr.cell? ⟨b, off + k * 2, none⟩ = some (.int .i64 ps[k].1) := cell_later hb (hc k hkl).1
      have r1 : wr.cell? ⟨b, off + k * 2 + 1, none⟩ = some (.float .f64 ps[k].2) := cell_later hb (hc k hkl).2
      have hkp : k < (pre (0, 0) n k ps).length := by rw [pre_length]; exact hlt
      have o0 : wr.cell? ⟨w.heap.size + 1, k * 2, none⟩ = some (.int .i64 (pre (0, 0) n k ps)[k].1) := by rw [hown.cellAt (k * 2) (by omega), flat, flat2_get0 ci ct _ k hkp]; rfl
      have o1 : wr.cell? ⟨w.heap.size + 1, k * 2 + 1, none⟩ = some (.float .f64 (pre (0, 0) n k ps)[k].2) := by rw [hown.cellAt (k * 2 + 1) (by omega), flat, flat2_get1 ci ct _ k hkp]; rfl
      have f0 := hown.frozenAt (k * 2)
      have f1 := hown.frozenAt (k * 2 + 1)
      have hst := ((hown.stored (k * 2) (ci ps[k])).1.stored (k * 2 + 1) (ct ps[k])).1
      rw [flat, flat2_set, pre_set (0, 0) n k ps hkl] at hst
      have hbb : Below w.heap.size w ((wr.setCell ⟨w.heap.size + 1, k * 2, none⟩ (ci ps[k])).setCell ⟨w.heap.size + 1, k * 2 + 1, none⟩ (ct ps[k])) := (hb.setCell (by simp) _).setCell (by simp) _
      have hxx : ((wr.setCell ⟨w.heap.size + 1, k * 2, none⟩ (ci ps[k])).setCell ⟨w.heap.size + 1, k * 2 + 1, none⟩ (ct ps[k])).heap[w.heap.size]? = some (.cells #[.slice (some ⟨w.heap.size + 1, 0, none⟩) n n] 51 (0, 0)) := by
        rw [heap_setCell_other _ _ _ _ (by simp), heap_setCell_other _ _ _ _ (by simp)]; exact hbox
      have H1 : Hid _ := hst
      have H2 : Hid _ := hbb
      have H3 : Hid _ := hxx
      clear hst hbb hxx hown hb hbox hc hx
      generalize ps[k] = q at *
      generalize (pre (0, 0) n k ps)[k] = q' at *
      obtain ⟨qi, qt⟩ := q
      obtain ⟨qi', qt'⟩ := q'
      go_wp2
      go_region
      go_wp2
      go_roundw
      case rel => exact ⟨k + 1, by omega, by go_num, H3.out, by rw [pre_length]; exact H1.out, H2.out.drew, by simpa using hsz⟩
      case measure => simp [intOf]; omega
    · have hk' : k = n := by omega
      subst hk'
      rw [pre_all (0, 0) k ps hpn] at hown
      have HCo : Hid (Copied w.heap.size w wr (.slice (some ⟨w.heap.size + 1, 0, none⟩) k k) ps) := ⟨hbox, by rw [hpn]; exact hown, hb, hsz⟩
      clear hown hb hbox hsz hr
      go_wp2_with fail
      obtain ⟨k1, k2, k3, k4⟩ := HCo.out
      refine (add31 _ w.heap.size k _ idx tok ps _ (by omega) hpn k1 (by rw [hpn] at k2; exact k2) k4 (Nat.le_refl _)).mono ?_
      rintro e w1 ⟨ps', hstep, v', rfl, hbox1, hown1, hb1⟩
      obtain ⟨m, hm, hmle⟩ := addStep_pos hstep
      rw [hm] at hown1
      obtain ⟨g1, c1, rfl⟩ := own_shape hown1
      have hB1 : Below w.heap.size w w1 := k3.trans hb1
      have hml : m ≤ 1000000 := by omega
      have cb1 := cell_of_one hbox1
      have HBx : Hid _ := hbox1
      have HSt : Hid _ := hstep
      clear hbox1 hstep k1 k2 k3 k4 HCo hmle hb1
      have hby : i0.bytes * (m + 1) ≤ 281474976710656 := by rw [hz2]; omega
      have hsz := hB1.size
      go_wp2_with (at_make; refine wpList_make_full _ rfl _ _ 38 rfl w1.heap.size 42 i0 (.agg #[.int .i64 0, .float .f64 0]) 2 Trym.underlying38 hi hz0 hz1 _ _ _ _ (m + 1) rfl rfl (by simp) (by simp) hby (by unfold maxLen; omega) (Nat.le_refl _) ?_)
      intro w2 hown2 hgrow2
      rw [made_flat (m + 1) ps'] at hown2
      have hb2 : Below w1.heap.size w1 w2 := (Below.refl _ _).grown hgrow2 (Nat.le_refl _) (by intro k hk; cases hk)
      clear hgrow2
      go_wp2
      go_loopw [10] (fun i wr => ∃ k : Nat, k ≤ m + 1 ∧ i = .int .i64 k ∧ wr.ownsRow w1.heap.size 42 2 (.slice (some ⟨w1.heap.size, 0, none⟩) (m + 1) (m + 1)) (m + 1) (flat (pre (0, 0) (m + 1) k ps')) ∧ Below w1.heap.size w1 wr) (fun i _ => m + 1 - (intOf i).toNat)
      case atStart => exact ⟨0, Nat.zero_le _, rfl, hown2, hb2⟩
      case round =>
        obtain ⟨k, hk, rfl, hown, hb⟩ := hrel
        have cb := cell_later hb cb1
        by_cases hlt : k < m + 1
        · have hkl : k < ps'.length := by omega
          have r0 : wr.cell? ⟨g1, k * 2, none⟩ = some (.int .i64 ps'[k].1) := cell_later hb (by rw [hown1.cellAt (k * 2) (by omega), flat, flat2_get0 ci ct _ k hkl]; rfl)
          have r1 : wr.cell? ⟨g1, k * 2 + 1, none⟩ = some (.float .f64 ps'[k].2) := cell_later hb (by rw [hown1.cellAt (k * 2 + 1) (by omega), flat, flat2_get1 ci ct _ k hkl]; rfl)
          have hkp : k < (pre (0, 0) (m + 1) k ps').length := by rw [pre_length]; exact hlt
          have o0 : wr.cell? ⟨w1.heap.size, k * 2, none⟩ = some (.int .i64 (pre (0, 0) (m + 1) k ps')[k].1) := by rw [hown.cellAt (k * 2) (by omega), flat, flat2_get0 ci ct _ k hkp]; rfl
          have o1 : wr.cell? ⟨w1.heap.size, k * 2 + 1, none⟩ = some (.float .f64 (pre (0, 0) (m + 1) k ps')[k].2) := by rw [hown.cellAt (k * 2 + 1) (by omega), flat, flat2_get1 ci ct _ k hkp]; rfl
          have f0 := hown.frozenAt (k * 2)
          have f1 := hown.frozenAt (k * 2 + 1)
          have hst := ((hown.stored (k * 2) (ci ps'[k])).1.stored (k * 2 + 1) (ct ps'[k])).1
          rw [flat, flat2_set, pre_set (0, 0) (m + 1) k ps' hkl] at hst
          have hbb : Below w1.heap.size w1 ((wr.setCell ⟨w1.heap.size, k * 2, none⟩ (ci ps'[k])).setCell ⟨w1.heap.size, k * 2 + 1, none⟩ (ct ps'[k])) := (hb.setCell (Nat.le_refl _) _).setCell (Nat.le_refl _) _
          have H1 : Hid _ := hst
          have H2 : Hid _ := hbb
          clear hst hbb hown hb hown2 hb2 hown1 hB1
          generalize ps'[k] = q at *
          generalize (pre (0, 0) (m + 1) k ps')[k] = q' at *
          obtain ⟨qi, qt⟩ := q
          obtain ⟨qi', qt'⟩ := q'
          go_wp2
          go_region
          go_wp2
          go_roundw
          case rel => exact ⟨k + 1, by omega, by go_num, H1.out, H2.out.drew⟩
          case measure => simp [intOf]; omega
        · have hk' : k = m + 1 := by omega
          subst hk'
          rw [pre_all (0, 0) (m + 1) ps' hm] at hown
          have hbB : Below w.heap.size w wr := hB1.trans (hb.mono hsz)
          have HF : Hid _ := PRow.of_own hm hown
          have HB' : Hid _ := hbB
          clear hown hb hown2 hb2 hbB
          go_wp2
          go_ret
          exact ⟨_, _, _, ps', rfl, HSt.out, HF.out, HB'.out⟩
end Go.Proofs.Qxb6602788aMods
