/-
  THE WALK over (*windowSums).add.
-/
import Derived.Test.Qxb6602788aModsPairs
import Derived.Deep.QuietTactic
import Derived.BigQuiet
import Derived.RegionTactic
import Derived.BigRegion
namespace Go.Proofs.Qxb6602788aMods
open Go.RowKit
attribute [local go_sem] run_store_float

theorem Trym.info53 : (Trym.prog.info? 53).map (fun i => (i.zero, i.size, i.bytes)) = some (some (.agg #[.int .i64 0, .float .f64 0]), 2, 16) := by kernel_rfl

set_option maxHeartbeats 1000000 in
theorem add31_hit (Bs g n c : Nat) (idx : Int) (tok t0 : Nat) (w : World) (hn : n + 1 ≤ 1048576)
    (hbox : w.heap[Bs]? = some (.cells #[.slice (some ⟨g, 0, none⟩) (n + 1) c] 51 (0, 0)))
    (hi : w.cell? ⟨g, n * 2, none⟩ = some (.int .i64 idx)) (ht : w.cell? ⟨g, n * 2 + 1, none⟩ = some (.float .f64 t0)) (hf : w.frozen? ⟨g, n * 2 + 1, none⟩ = false) (r : Nat) (hadd : Ieee.double.add t0 tok = some r) :
    Calls Trym.prog 31 #[.pointer (some ⟨Bs, 0, none⟩), .int .i64 idx, .float .f64 tok] w fun e w' => e = .returned (.tuple #[]) ∧ w' = w.setCell ⟨g, n * 2 + 1, none⟩ (.float .f64 r) := by
  have cb := cell_of_one hbox
  have fb := free_of_one hbox
  have hrun := fun (w : World) => run_float_arith (P := Trym.prog) w .add 29 .f64 t0 tok r hadd
  clear hadd
  go_enter Trym.func31, Trym.ntmps31
  go_wp2
  exact bodyPost_ret (v := .tuple #[]) (results_none rfl _ _ _) rfl ⟨rfl, rfl⟩

set_option maxHeartbeats 1000000 in
theorem add31_hit_nan (Bs g n c : Nat) (idx : Int) (tok t0 : Nat) (w : World) (hn : n + 1 ≤ 1048576)
    (hbox : w.heap[Bs]? = some (.cells #[.slice (some ⟨g, 0, none⟩) (n + 1) c] 51 (0, 0)))
    (hi : w.cell? ⟨g, n * 2, none⟩ = some (.int .i64 idx)) (ht : w.cell? ⟨g, n * 2 + 1, none⟩ = some (.float .f64 t0)) (hf : w.frozen? ⟨g, n * 2 + 1, none⟩ = false) (hadd : Ieee.double.add t0 tok = none) :
    Calls Trym.prog 31 #[.pointer (some ⟨Bs, 0, none⟩), .int .i64 idx, .float .f64 tok] w fun e w' => e = .returned (.tuple #[]) ∧ w' = (w.setCell ⟨g, n * 2 + 1, none⟩ (.float .f64 (nanOf w t0 tok))).drew := by
  have cb := cell_of_one hbox
  have fb := free_of_one hbox
  have hrun := fun (w : World) => run_add_nan (P := Trym.prog) w 29 t0 tok hadd
  clear hadd
  go_enter Trym.func31, Trym.ntmps31
  go_wp2
  exact bodyPost_ret (v := .tuple #[]) (results_none rfl _ _ _) rfl ⟨rfl, rfl⟩

/-- A box of another type is no owned row. -/
theorem own_ne_box {w : World} {base Bs n : Nat} {e t : TypeId} {size : Nat} {v u : Value} {xs : List Value} (hown : w.ownsRow base e size v n xs) (hbox : w.heap[Bs]? = some (.cells #[u] t (0, 0))) (het : e ≠ t) : v.ownBlock ≠ some Bs := by
  rcases hown.2 with ⟨rfl, _⟩ | ⟨g, cap, cur, rfl, _, hh, _⟩
  · simp [Value.ownBlock]
  · intro h
    simp [Value.ownBlock] at h
    subst h
    rw [hbox] at hh
    simp at hh
    exact het hh.2.symm

theorem box_kept {w w1 : World} {base Bs n : Nat} {v u : Value} {xs : List Value} {O : Obj} (hown : w.ownsRow base 53 2 v n xs) (hbox : w.heap[Bs]? = some (.cells #[u] 51 (0, 0))) (hgrow : (w.alloc O).grownBy w1 v.ownBlock) : w1.heap[Bs]? = some (.cells #[u] 51 (0, 0)) := by
  have hlt := lt_of_block hbox
  rw [hgrow.block Bs (by simp; omega) (fun e => own_ne_box hown hbox (by decide) e.symm), Below.heap_alloc _ _ _ hlt, hbox]

/-- What the call of add leaves: the box holds a slice that owns ps'. -/
def AddPost (Bs base : Nat) (w : World) (ps' : List (Int × Nat)) (e : Ending) (w' : World) : Prop :=
  ∃ v', e = .returned (.tuple #[]) ∧ w'.heap[Bs]? = some (.cells #[v'] 51 (0, 0)) ∧ w'.ownsRow base 53 2 v' ps'.length (flat ps') ∧ Below base w w'

theorem miss_post {Bs base n : Nat} {v v' : Value} {idx : Int} {tok : Nat} {ps : List (Int × Nat)} {w w1 : World} {O : Obj} (hl : ps.length = n)
    (hbox : w.heap[Bs]? = some (.cells #[v] 51 (0, 0))) (hown : w.ownsRow base 53 2 v n (flat ps)) (hbb : base ≤ w.heap.size) (hB : base ≤ Bs)
    (hown1 : w1.ownsRow base 53 2 v' (n + 1) (flat ps ++ [.int .i64 idx, .float .f64 tok])) (hgrow : (w.alloc O).grownBy w1 v.ownBlock) :
    AddPost Bs base w (ps ++ [(idx, tok)]) (.returned (.tuple #[])) (w1.setCell ⟨Bs, 0, none⟩ v') := by
  have hbox1 := box_kept hown hbox hgrow
  refine ⟨v', rfl, one_setCell hbox1, ?_, ?_⟩
  · have e : flat (ps ++ [(idx, tok)]) = flat ps ++ [.int .i64 idx, .float .f64 tok] := by rw [flat, flat2_append]; rfl
    rw [e, List.length_append, hl]
    exact ownsRow_setCell_other hown1 (own_ne_box hown1 hbox1 (by decide)) _
  · refine Below.setCell ?_ hB _
    refine (((Below.refl _ _).alloc hbb O).grown hgrow (by simp; omega) ?_)
    intro k hk
    exact (hown.lt k hk).1

theorem own_shape {w : World} {base n : Nat} {e : TypeId} {size : Nat} {v : Value} {xs : List Value} (h : w.ownsRow base e size v (n + 1) xs) : ∃ g c, v = .slice (some ⟨g, 0, none⟩) (n + 1) c := by
  rcases h.2 with ⟨_, h0⟩ | ⟨g, cap, _, h1, _⟩
  · omega
  · exact ⟨g, cap, h1⟩

theorem two_oneCell (a : Int) (b : Nat) : ∀ u ∈ ([.int .i64 a, .float .f64 b] : List Value), u.oneCell' = true := by
  intro u hu
  simp at hu
  rcases hu with rfl | rfl <;> rfl

set_option maxHeartbeats 1000000 in
theorem add31_miss (Bs base n : Nat) (v : Value) (idx : Int) (tok : Nat) (ps : List (Int × Nat)) (w : World) (hn : n ≤ 1048576) (hl : ps.length = n)
    (hbox : w.heap[Bs]? = some (.cells #[v] 51 (0, 0))) (hown : w.ownsRow base 53 2 v n (flat ps)) (hbb : base ≤ w.heap.size) (hB : base ≤ Bs)
    (hmiss : ∀ h : n - 1 < ps.length, ps[n - 1].1 ≠ idx) :
    Calls Trym.prog 31 #[.pointer (some ⟨Bs, 0, none⟩), .int .i64 idx, .float .f64 tok] w (AddPost Bs base w (ps ++ [(idx, tok)])) := by
  have cb := cell_of_one hbox
  have fb := free_of_one hbox
  obtain ⟨i0, hi, hz0, hz1, hz2⟩ := info_parts Trym.info53
  have hm : n + 1 ≤ maxLen := by unfold maxLen; omega
  rcases hown.2 with ⟨rfl, h0⟩ | ⟨g, cap, cur, rfl, hg, hh, hnc, hcm, hcs, htk⟩
  · subst h0
    have HB : Hid _ := hbox
    clear hbox
    go_enter Trym.func31, Trym.ntmps31
    go_wp2_with (at_builtin; refine wpList_append_own _ rfl (.tmp 40) (.tmp 44) 51 rfl base 53 i0 (.agg #[.int .i64 0, .float .f64 0]) 2 16 Trym.underlying51 hi hz0 hz1 hz2 rfl (by decide) (.slice none 0 0) 0 (flat ps) rfl (hown.alloc _) ⟨w.heap.size, 0, none⟩ 1 1 [.int .i64 idx, .float .f64 tok] rfl rfl (cell_two_new _ _ _ _) (two_oneCell _ _) hm (by omega) (by simp; omega) ?_; intro v' w1 hown1 hgrow _; have hbox1 := box_kept hown HB.out hgrow; have cb1 := cell_of_one hbox1; have fb1 := free_of_one hbox1; clear hbox1; obtain ⟨g', cap', hv⟩ := own_shape hown1; rw [hv]; have HP := miss_post (idx := idx) (tok := tok) hl HB.out hown hbb hB hown1 hgrow; rw [hv] at HP; have HP' : Hid _ := HP; clear HP hown1 hgrow hv)
    go_end0
    (obtain ⟨v2, _, h1, h2, h3⟩ := HP'.out; exact ⟨v2, rfl, h1, h2, h3⟩)
  · have HB : Hid _ := hbox
    have HH : Hid _ := hh
    have HT : Hid _ := htk
    have HS : Hid _ := hcs
    clear hbox hh htk hcs
    have HO : Hid _ := hown
    by_cases hn0 : n = 0
    · subst hn0
      go_enter Trym.func31, Trym.ntmps31
      go_wp2_with (at_builtin; refine wpList_append_own _ rfl (.tmp 40) (.tmp 44) 51 rfl base 53 i0 (.agg #[.int .i64 0, .float .f64 0]) 2 16 Trym.underlying51 hi hz0 hz1 hz2 rfl (by decide) (.slice (some ⟨g, 0, none⟩) 0 cap) 0 (flat ps) rfl (hown.alloc _) ⟨w.heap.size, 0, none⟩ 1 1 [.int .i64 idx, .float .f64 tok] rfl rfl (cell_two_new _ _ _ _) (two_oneCell _ _) hm (by omega) (by simp; omega) ?_; intro v' w1 hown1 hgrow _; have hbox1 := box_kept hown HB.out hgrow; have cb1 := cell_of_one hbox1; have fb1 := free_of_one hbox1; clear hbox1; obtain ⟨g', cap', hv⟩ := own_shape hown1; rw [hv]; have HP := miss_post (idx := idx) (tok := tok) hl HB.out hown hbb hB hown1 hgrow; rw [hv] at HP; have HP' : Hid _ := HP; clear HP hown1 hgrow hv)
      go_end0
      (obtain ⟨v2, _, h1, h2, h3⟩ := HP'.out; exact ⟨v2, rfl, h1, h2, h3⟩)
    · obtain ⟨k, rfl⟩ : ∃ k, n = k + 1 := ⟨n - 1, by omega⟩
      have hk : k < ps.length := by omega
      have hne : (ps[k].1 == idx) = false := by simpa using hmiss hk
      have hck : w.cell? ⟨g, k * 2, none⟩ = some (.int .i64 ps[k].1) := by rw [hown.cellAt (k * 2) (by omega), flat, flat2_get0 ci ct ps k hk]; rfl
      clear hmiss
      generalize ps[k].1 = j at *
      go_enter Trym.func31, Trym.ntmps31
      go_wp2_with (at_builtin; refine wpList_append_own _ rfl (.tmp 40) (.tmp 44) 51 rfl base 53 i0 (.agg #[.int .i64 0, .float .f64 0]) 2 16 Trym.underlying51 hi hz0 hz1 hz2 rfl (by decide) (.slice (some ⟨g, 0, none⟩) (k + 1) cap) (k + 1) (flat ps) rfl (hown.alloc _) ⟨w.heap.size, 0, none⟩ 1 1 [.int .i64 idx, .float .f64 tok] rfl rfl (cell_two_new _ _ _ _) (two_oneCell _ _) hm (by omega) (by simp; omega) ?_; intro v' w1 hown1 hgrow _; have hbox1 := box_kept hown HB.out hgrow; have cb1 := cell_of_one hbox1; have fb1 := free_of_one hbox1; clear hbox1; obtain ⟨g', cap', hv⟩ := own_shape hown1; rw [hv]; have HP := miss_post (idx := idx) (tok := tok) hl HB.out hown hbb hB hown1 hgrow; rw [hv] at HP; have HP' : Hid _ := HP; clear HP hown1 hgrow hv)
      go_end0
      (obtain ⟨v2, _, h1, h2, h3⟩ := HP'.out; exact ⟨v2, rfl, h1, h2, h3⟩)

/-- One admission added to a list of sums. -/
def AddStep (ps : List (Int × Nat)) (i : Int) (t : Nat) (ps' : List (Int × Nat)) : Prop :=
  (∃ qs t0 r, ps = qs ++ [(i, t0)] ∧ AddR t0 t r ∧ ps' = qs ++ [(i, r)]) ∨ ((∀ qs j t0, ps = qs ++ [(j, t0)] → j ≠ i) ∧ ps' = ps ++ [(i, t)])

theorem hit_post {Bs base g c : Nat} {idx : Int} {t0 r : Nat} {qs : List (Int × Nat)} {w : World}
    (hbox : w.heap[Bs]? = some (.cells #[.slice (some ⟨g, 0, none⟩) (qs.length + 1) c] 51 (0, 0))) (hown : w.ownsRow base 53 2 (.slice (some ⟨g, 0, none⟩) (qs.length + 1) c) (qs.length + 1) (flat (qs ++ [(idx, t0)]))) :
    AddPost Bs base w (qs ++ [(idx, r)]) (.returned (.tuple #[])) (w.setCell ⟨g, qs.length * 2 + 1, none⟩ (.float .f64 r)) := by
  have hne : g ≠ Bs := fun e => own_ne_box hown hbox (by decide) (by simp [Value.ownBlock, e])
  have hst := (hown.stored (qs.length * 2 + 1) (.float .f64 r)).1
  have e : (flat (qs ++ [(idx, t0)])).set (qs.length * 2 + 1) (.float .f64 r) = flat (qs ++ [(idx, r)]) := by
    have := flat2_set1 ci ct (qs ++ [(idx, t0)]) qs.length (by simp) (idx, r) (by simp [ci])
    rw [flat, show Value.float .f64 r = ct (idx, r) from rfl, this]
    simp
  rw [e] at hst
  have hg := (hown.lt g (by simp [Value.ownBlock])).1
  refine ⟨.slice (some ⟨g, 0, none⟩) (qs.length + 1) c, rfl, ?_, ?_, (Below.refl _ _).setCell hg _⟩
  · rw [heap_setCell_other _ _ _ _ (fun e => hne e.symm)]; exact hbox
  · simpa using hst

theorem last_split (ps : List (Int × Nat)) (h : ps ≠ []) : ∃ qs p, ps = qs ++ [p] := ⟨ps.dropLast, ps.getLast h, (List.dropLast_concat_getLast h).symm⟩

theorem add31 (Bs base n : Nat) (v : Value) (idx : Int) (tok : Nat) (ps : List (Int × Nat)) (w : World) (hn : n ≤ 1000000) (hl : ps.length = n)
    (hbox : w.heap[Bs]? = some (.cells #[v] 51 (0, 0))) (hown : w.ownsRow base 53 2 v n (flat ps)) (hbb : base ≤ w.heap.size) (hB : base ≤ Bs) :
    Calls Trym.prog 31 #[.pointer (some ⟨Bs, 0, none⟩), .int .i64 idx, .float .f64 tok] w fun e w' => ∃ ps', AddStep ps idx tok ps' ∧ AddPost Bs base w ps' e w' := by
  by_cases h0 : ps = []
  · subst h0
    refine (add31_miss Bs base n v idx tok [] w (by omega) hl hbox hown hbb hB (fun h => absurd h (Nat.not_lt_zero _))).mono ?_
    intro e w' hp
    refine ⟨_, .inr ⟨?_, rfl⟩, hp⟩
    intro qs j t0 h
    have := congrArg List.length h
    simp at this
  · obtain ⟨qs, ⟨j, t0⟩, rfl⟩ := last_split ps h0
    have hn' : n = qs.length + 1 := by simpa using hl.symm
    subst hn'
    by_cases hj : j = idx
    · subst hj
      obtain ⟨g, c, rfl⟩ := own_shape hown
      have c0 : w.cell? ⟨g, qs.length * 2, none⟩ = some (.int .i64 j) := by
        rw [hown.cellAt _ (by omega), flat, flat2_get0 ci ct _ qs.length (by simp)]; simp [ci]
      have c1 : w.cell? ⟨g, qs.length * 2 + 1, none⟩ = some (.float .f64 t0) := by
        rw [hown.cellAt _ (by omega), flat, flat2_get1 ci ct _ qs.length (by simp)]; simp [ct]
      have f1 := hown.frozenAt (qs.length * 2 + 1)
      cases hadd : Ieee.double.add t0 tok with
      | some r =>
        refine (add31_hit Bs g qs.length c j tok t0 w (by omega) hbox c0 c1 f1 r hadd).mono ?_
        rintro e w' ⟨rfl, rfl⟩
        exact ⟨_, .inl ⟨qs, t0, r, rfl, .inl hadd, rfl⟩, hit_post hbox hown⟩
      | none =>
        refine (add31_hit_nan Bs g qs.length c j tok t0 w (by omega) hbox c0 c1 f1 hadd).mono ?_
        rintro e w' ⟨rfl, rfl⟩
        refine ⟨_, .inl ⟨qs, t0, nanOf w t0 tok, rfl, .inr ⟨hadd, nanOf_nan _ _ _⟩, rfl⟩, ?_⟩
        obtain ⟨v', h1, h2, h3, h4⟩ := hit_post (r := nanOf w t0 tok) hbox hown
        exact ⟨v', rfl, h2, h3, h4.drew⟩
    · refine (add31_miss Bs base _ v idx tok _ w (by omega) hl hbox hown hbb hB (fun h => by simpa using hj)).mono ?_
      intro e w' hp
      refine ⟨_, .inr ⟨?_, rfl⟩, hp⟩
      intro qs' j' t' h
      have := (List.append_inj' h rfl).2
      simp at this
      rw [← this.1]; exact hj

end Go.Proofs.Qxb6602788aMods
