/-
  THE WALKS over windowStarts, ZZWindowStarts.
-/
import Derived.Test.Qxb6602788aModsWin
import Derived.Test.Qxb6602788aModsAdd
import Derived.Test.Qxb6602788aModsLawSum
namespace Go.Proofs.Qxb6602788aMods
open Go.RowKit
attribute [local go_sem] run_store_float

/-- (The type stays as it is typed.) -/
theorem hidden {p : Prop} (h : p) : Hid p := h

def fl (x : Nat) : Value := .float .f64 x

/-- A slice that is not nil and holds the starts. -/
def GivesStarts (w : World) (l : List Nat) (e : Ending) (w' : World) : Prop :=
  ∃ b c, e = .returned (.slice (some ⟨b, 0, none⟩) l.length c) ∧ FRow w' (some ⟨b, 0, none⟩) l.length l ∧ Below w.heap.size w w'

theorem own_frow {w : World} {base g c : Nat} {l : List Nat} (h : w.ownsRow base 29 1 (.slice (some ⟨g, 0, none⟩) l.length c) l.length (l.map fl)) : FRow w (some ⟨g, 0, none⟩) l.length l := by
  refine ⟨rfl, .inr ⟨g, 0, rfl, fun i hi => ?_⟩⟩
  rw [Nat.zero_add, h.cellAt i (by omega)]
  simp [fl, List.getD, hi]

/-- The loop's state: what is gathered and what is left make the whole. -/
def MState (B : Nat) (w wr : World) (A Bl : List Nat) (v : Value) (i j : Nat) : Prop :=
  ∃ g c os, v = .slice (some ⟨g, 0, none⟩) os.length c ∧ wr.ownsRow B 29 1 (.slice (some ⟨g, 0, none⟩) os.length c) os.length (os.map fl) ∧ os.length ≤ i + j ∧ os ++ mg (A.drop i) (Bl.drop j) = mg A Bl ∧ Below B w wr

theorem mstep {B g cc i j i' j' k z : Nat} {w wr wx w2 : World} {A Bl os : List Nat} {v' : Value}
    (hown : wr.ownsRow B 29 1 (.slice (some ⟨g, 0, none⟩) os.length cc) os.length (os.map fl)) (hlen : os.length ≤ i + j) (hij : i + j + 1 ≤ i' + j') (hmg : os ++ mg (A.drop i) (Bl.drop j) = mg A Bl) (hb : Below B w wr) (hB : B ≤ wr.heap.size)
    (hz : mg (A.drop i) (Bl.drop j) = z :: mg (A.drop i') (Bl.drop j'))
    (hx : wx = wr.drewN k) (O : Obj) (hown2 : w2.ownsRow B 29 1 v' (os.length + 1) (os.map fl ++ [.float .f64 z])) (hgrow : (wx.alloc O).grownBy w2 (Value.slice (some ⟨g, 0, none⟩) os.length cc).ownBlock) :
    MState B w w2 A Bl v' i' j' := by
  subst hx
  obtain ⟨g', c', rfl⟩ := own_shape hown2
  refine ⟨g', c', os ++ [z], by simp, ?_, by simp; omega, by rw [← hmg, hz]; simp, ?_⟩
  · simpa [fl] using hown2
  · refine ((below_drewN hb k).alloc hB O).grown hgrow (by simp; exact Nat.le_succ_of_le hB) ?_
    intro q hq
    simp [Value.ownBlock] at hq
    subst hq
    exact (hown.lt g (by simp [Value.ownBlock])).1

theorem one_oneCell (z : Nat) : ∀ u ∈ ([.float .f64 z] : List Value), u.oneCell' = true := by
  intro u hu
  simp at hu
  subst hu; rfl

theorem drop_at (xs : List (Nat × Int)) (i : Nat) (h : i < xs.length) : (xs.map (·.1)).drop i = xs[i].1 :: (xs.map (·.1)).drop (i + 1) := by
  rw [List.drop_eq_getElem_cons (by simpa using h)]; simp
theorem drop_end (xs : List (Nat × Int)) (i : Nat) (h : xs.length ≤ i) : (xs.map (·.1)).drop i = [] := List.drop_eq_nil_of_le (by simpa using h)

set_option maxRecDepth 100000 in
set_option maxHeartbeats 8000000 in
theorem starts27 (a : Option Addr) (n c : Nat) (xs : List (Nat × Int)) (a2 : Option Addr) (m c2 : Nat) (ys : List (Nat × Int)) (w : World) (hn : n ≤ 4096) (hm : m ≤ 4096) (hr : WRow w a n xs) (hr2 : WRow w a2 m ys) :
    Calls Trym.prog 27 #[.slice a n c, .slice a2 m c2] w (GivesStarts w (mg (xs.map (·.1)) (ys.map (·.1)))) := by
  obtain ⟨i0, hi, hz0, hz1, hz2⟩ := info_parts Trym.info29
  obtain ⟨hl, hr⟩ := hr
  obtain ⟨hl2, hr2⟩ := hr2
  have hbyn : i0.bytes * n ≤ 281474976710656 := by rw [hz2]; omega
  have hbym : i0.bytes * m ≤ 281474976710656 := by rw [hz2]; omega
  have hnm : (n : Int) < (m : Int) ∨ ¬ ((n : Int) < (m : Int)) := Classical.em _
  have Hr := hidden hr
  have Hr2 := hidden hr2
  clear hr hr2
  rcases hnm with hnm | hnm
  all_goals
    go_enter Trym.func27, Trym.ntmps27
    go_wp2_with (at_make; first | refine wpList_make_own _ rfl _ _ 25 rfl w.heap.size 29 i0 (.float .f64 0) 1 Trym.underlying25 hi hz0 hz1 _ _ _ m rfl rfl rfl hbym (by unfold maxLen; omega) (Nat.le_refl _) ?_ | refine wpList_make_own _ rfl _ _ 25 rfl w.heap.size 29 i0 (.float .f64 0) 1 Trym.underlying25 hi hz0 hz1 _ _ _ n rfl rfl rfl hbyn (by unfold maxLen; omega) (Nat.le_refl _) ?_)
    intro w1 hown hgrow
    have hst : ∀ cc, w1.ownsRow w.heap.size 29 1 (.slice (some ⟨w.heap.size, 0, none⟩) 0 cc) 0 [] → MState w.heap.size w w1 (xs.map (·.1)) (ys.map (·.1)) (.slice (some ⟨w.heap.size, 0, none⟩) 0 cc) 0 0 := by
      intro cc ho
      exact ⟨w.heap.size, cc, [], rfl, ho, Nat.zero_le _, rfl, (Below.refl _ _).grown hgrow (Nat.le_refl _) (by intro k hk; cases hk)⟩
    have hst' := hst _ hown
    have HS := hidden hst'
    clear hst hst' hown hgrow
    go_wp2
    go_loopw [5, 6, 7] (fun v iv jv wr => ∃ i j : Nat, i ≤ n ∧ j ≤ m ∧ iv = .int .i64 i ∧ jv = .int .i64 j ∧ MState w.heap.size w wr (xs.map (·.1)) (ys.map (·.1)) v i j) (fun _ iv jv _ => n - (intOf iv).toNat + (m - (intOf jv).toNat))
    case atStart => exact ⟨0, 0, Nat.zero_le _, Nat.zero_le _, rfl, rfl, HS.out⟩
    case round =>
      obtain ⟨i, j, hin, hjm, rfl, rfl, g, cc, os, rfl, hown, hlen, hmg, hb⟩ := hrel
      have hB := hb.size
      have Hown := hidden hown
      have Hmg := hidden hmg
      have Hb := hidden hb
      have h63 : os.length + 1 ≤ maxLen := by unfold maxLen; omega
      have hbyt : (os.length + 1) * 8 ≤ 140737488355328 := by omega
      clear hown hmg hb
      by_cases hi1 : i < n
      · have hil : i < xs.length := by omega
        obtain ⟨b, off, rfl, hc⟩ := Hr.out.resolve_left (by omega)
        have ra : wr.cell? ⟨b, off + i * 2, none⟩ = some (.float .f64 xs[i].1) := cell_later Hb.out (hc i hil).1
        have hda := drop_at xs i hil
        clear hc
        generalize xs[i].1 = x at *
        have Hda := hidden hda
        clear hda
        have hi1' : (i : Int) < (n : Int) := by omega
        by_cases hj1 : j < m
        · have hjl : j < ys.length := by omega
          obtain ⟨b2, off2, rfl, hc2⟩ := Hr2.out.resolve_left (by omega)
          have rb : wr.cell? ⟨b2, off2 + j * 2, none⟩ = some (.float .f64 ys[j].1) := cell_later Hb.out (hc2 j hjl).1
          have hdb := drop_at ys j hjl
          clear hc2
          generalize ys[j].1 = y at *
          have Hdb := hidden hdb
          clear hdb
          have hj1' : (j : Int) < (m : Int) := by omega
          have hje : ((j : Int) == (m : Int)) = false := by simp; omega
          have hie : ((i : Int) == (n : Int)) = false := by simp; omega
          cases hxy : ltB x y with
          | true =>
            have hz : mg ((xs.map (·.1)).drop i) ((ys.map (·.1)).drop j) = x :: mg ((xs.map (·.1)).drop (i + 1)) ((ys.map (·.1)).drop j) := by
              rw [Hda.out, Hdb.out, mg_cons, if_pos hxy]
            have Hz := hidden hz
            have hxy' : (FloatKind.f64.format.order x y == some .lt) = true := hxy
            clear hz hxy
            go_wp2
            go_quiet (fail)
            go_wp2_with (at_builtin; go_must (refine wpList_append_own _ rfl (.tmp 60) (.tmp 66) 25 rfl w.heap.size 29 i0 (.float .f64 0) 1 8 Trym.underlying25 hi hz0 hz1 hz2 rfl (by decide) (.slice (some ⟨g, 0, none⟩) os.length cc) os.length (os.map fl) rfl (by exact Hown.out.alloc _) ⟨wr.heap.size, 0, none⟩ 1 1 [.float .f64 x] rfl rfl (by exact cell_one_new _ _ _) (one_oneCell x) h63 hbyt (by simp; omega) ?_))
            intro v' w2 hown2 hgrow _
            have HM : Hid (MState w.heap.size w w2 (xs.map (·.1)) (ys.map (·.1)) v' (i + 1) j) := mstep Hown.out hlen (by omega) Hmg.out Hb.out hB Hz.out rfl _ hown2 hgrow
            clear hown2 hgrow
            go_wp2
            go_roundw
            case rel => exact ⟨(i + 1), j, by omega, by omega, by go_num, by go_num, HM.out⟩
            case measure => simp [intOf]; omega
          | false =>
            have hxy' : (FloatKind.f64.format.order x y == some .lt) = false := hxy
            cases hyx : ltB y x with
            | true =>
              have hz : mg ((xs.map (·.1)).drop i) ((ys.map (·.1)).drop j) = y :: mg ((xs.map (·.1)).drop i) ((ys.map (·.1)).drop (j + 1)) := by
                rw [Hda.out, Hdb.out, mg_cons, hxy, if_neg (by simp), if_pos hyx]
              have Hz := hidden hz
              have hyx' : (FloatKind.f64.format.order y x == some .lt) = true := hyx
              clear hz hxy hyx
              go_wp2
              go_quiet (fail)
              go_wp2
              go_quiet (fail)
              go_wp2_with (at_builtin; go_must (refine wpList_append_own _ rfl (.tmp 88) (.tmp 94) 25 rfl w.heap.size 29 i0 (.float .f64 0) 1 8 Trym.underlying25 hi hz0 hz1 hz2 rfl (by decide) (.slice (some ⟨g, 0, none⟩) os.length cc) os.length (os.map fl) rfl (by exact Hown.out.alloc _) ⟨wr.heap.size, 0, none⟩ 1 1 [.float .f64 y] rfl rfl (by exact cell_one_new _ _ _) (one_oneCell y) h63 hbyt (by simp; omega) ?_))
              intro v' w2 hown2 hgrow _
              have HM : Hid (MState w.heap.size w w2 (xs.map (·.1)) (ys.map (·.1)) v' i (j + 1)) := mstep Hown.out hlen (by omega) Hmg.out Hb.out hB Hz.out rfl _ hown2 hgrow
              clear hown2 hgrow
              go_wp2
              go_roundw
              case rel => exact ⟨i, (j + 1), by omega, by omega, by go_num, by go_num, HM.out⟩
              case measure => simp [intOf]; omega
            | false =>
              have hz : mg ((xs.map (·.1)).drop i) ((ys.map (·.1)).drop j) = x :: mg ((xs.map (·.1)).drop (i + 1)) ((ys.map (·.1)).drop (j + 1)) := by
                rw [Hda.out, Hdb.out, mg_cons, hxy, if_neg (by simp), hyx, if_neg (by simp)]
              have Hz := hidden hz
              have hyx' : (FloatKind.f64.format.order y x == some .lt) = false := hyx
              clear hz hxy hyx
              go_wp2
              go_quiet (fail)
              go_wp2
              go_quiet (fail)
              go_wp2_with (at_builtin; go_must (refine wpList_append_own _ rfl (.tmp 24) (.tmp 30) 25 rfl w.heap.size 29 i0 (.float .f64 0) 1 8 Trym.underlying25 hi hz0 hz1 hz2 rfl (by decide) (.slice (some ⟨g, 0, none⟩) os.length cc) os.length (os.map fl) rfl (by exact Hown.out.alloc _) ⟨wr.heap.size, 0, none⟩ 1 1 [.float .f64 x] rfl rfl (by exact cell_one_new _ _ _) (one_oneCell x) h63 hbyt (by simp; omega) ?_))
              intro v' w2 hown2 hgrow _
              have HM : Hid (MState w.heap.size w w2 (xs.map (·.1)) (ys.map (·.1)) v' (i + 1) (j + 1)) := mstep Hown.out hlen (by omega) Hmg.out Hb.out hB Hz.out rfl _ hown2 hgrow
              clear hown2 hgrow
              go_wp2
              go_roundw
              case rel => exact ⟨(i + 1), (j + 1), by omega, by omega, by go_num, by go_num, HM.out⟩
              case measure => simp [intOf]; omega
        · have hjm' : j = m := by omega
          subst hjm'
          have hz : mg ((xs.map (·.1)).drop i) ((ys.map (·.1)).drop j) = x :: mg ((xs.map (·.1)).drop (i + 1)) ((ys.map (·.1)).drop j) := by
            rw [Hda.out, drop_end ys j (by omega), mg_left]
          have Hz := hidden hz
          clear hz
          go_wp2
          go_quiet (fail)
          go_wp2_with (at_builtin; go_must (refine wpList_append_own _ rfl (.tmp 60) (.tmp 66) 25 rfl w.heap.size 29 i0 (.float .f64 0) 1 8 Trym.underlying25 hi hz0 hz1 hz2 rfl (by decide) (.slice (some ⟨g, 0, none⟩) os.length cc) os.length (os.map fl) rfl (by exact Hown.out.alloc _) ⟨wr.heap.size, 0, none⟩ 1 1 [.float .f64 x] rfl rfl (by exact cell_one_new _ _ _) (one_oneCell x) h63 hbyt (by simp; omega) ?_))
          intro v' w2 hown2 hgrow _
          have HM : Hid (MState w.heap.size w w2 (xs.map (·.1)) (ys.map (·.1)) v' (i + 1) j) := mstep Hown.out hlen (by omega) Hmg.out Hb.out hB Hz.out rfl _ hown2 hgrow
          clear hown2 hgrow
          go_wp2
          go_roundw
          case rel => exact ⟨(i + 1), j, by omega, by omega, by go_num, by go_num, HM.out⟩
          case measure => simp [intOf]; omega
      · have hin' : i = n := by omega
        subst hin'
        by_cases hj1 : j < m
        · have hjl : j < ys.length := by omega
          obtain ⟨b2, off2, rfl, hc2⟩ := Hr2.out.resolve_left (by omega)
          have rb : wr.cell? ⟨b2, off2 + j * 2, none⟩ = some (.float .f64 ys[j].1) := cell_later Hb.out (hc2 j hjl).1
          have hdb := drop_at ys j hjl
          clear hc2
          generalize ys[j].1 = y at *
          have hj1' : (j : Int) < (m : Int) := by omega
          have hje : ((j : Int) == (m : Int)) = false := by simp; omega
          have hz : mg ((xs.map (·.1)).drop i) ((ys.map (·.1)).drop j) = y :: mg ((xs.map (·.1)).drop i) ((ys.map (·.1)).drop (j + 1)) := by
            rw [drop_end xs i (by omega), hdb, mg_right]
          have Hz := hidden hz
          clear hz hdb
          go_wp2
          go_quiet (fail)
          go_wp2
          go_quiet (fail)
          go_wp2_with (at_builtin; go_must (refine wpList_append_own _ rfl (.tmp 88) (.tmp 94) 25 rfl w.heap.size 29 i0 (.float .f64 0) 1 8 Trym.underlying25 hi hz0 hz1 hz2 rfl (by decide) (.slice (some ⟨g, 0, none⟩) os.length cc) os.length (os.map fl) rfl (by exact Hown.out.alloc _) ⟨wr.heap.size, 0, none⟩ 1 1 [.float .f64 y] rfl rfl (by exact cell_one_new _ _ _) (one_oneCell y) h63 hbyt (by simp; omega) ?_))
          intro v' w2 hown2 hgrow _
          have HM : Hid (MState w.heap.size w w2 (xs.map (·.1)) (ys.map (·.1)) v' i (j + 1)) := mstep Hown.out hlen (by omega) Hmg.out Hb.out hB Hz.out rfl _ hown2 hgrow
          clear hown2 hgrow
          go_wp2
          go_roundw
          case rel => exact ⟨i, (j + 1), by omega, by omega, by go_num, by go_num, HM.out⟩
          case measure => simp [intOf]; omega
        · have hjm' : j = m := by omega
          subst hjm'
          have hfin := Hmg.out
          rw [drop_end xs i (by omega), drop_end ys j (by omega), mg_nil, List.append_nil] at hfin
          have HF : Hid (GivesStarts w (mg (xs.map (·.1)) (ys.map (·.1))) (.returned (.slice (some ⟨g, 0, none⟩) os.length cc)) wr) := by
            rw [← hfin]; exact ⟨g, cc, rfl, own_frow Hown.out, Hb.out⟩
          clear hfin
          go_wp2
          go_ret
          exact HF.out

theorem zzstarts12 (a : Option Addr) (n c : Nat) (xs : List (Nat × Int)) (a2 : Option Addr) (m c2 : Nat) (ys : List (Nat × Int)) (w : World) (hn : n ≤ 4096) (hm : m ≤ 4096) (hr : WRow w a n xs) (hr2 : WRow w a2 m ys) :
    Calls Trym.prog 12 #[.slice a n c, .slice a2 m c2] w (GivesStarts w (mg (xs.map (·.1)) (ys.map (·.1)))) := by
  have Hr := hidden hr
  have Hr2 := hidden hr2
  clear hr hr2
  go_enter Trym.func12, Trym.ntmps12
  go_wp2_with fail
  refine (starts27 _ _ _ xs _ _ _ ys _ hn hm Hr.out Hr2.out).mono ?_
  rintro e w' ⟨b, cc, rfl, hf, hb⟩
  have HF : Hid (GivesStarts w (mg (xs.map (·.1)) (ys.map (·.1))) (.returned (.slice (some ⟨b, 0, none⟩) (mg (xs.map (·.1)) (ys.map (·.1))).length cc)) w') := ⟨b, cc, rfl, hf, hb⟩
  clear hf hb
  go_wp2
  go_ret
  exact HF.out

end Go.Proofs.Qxb6602788aMods
