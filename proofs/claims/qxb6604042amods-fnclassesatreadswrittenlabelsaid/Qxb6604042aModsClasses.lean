/-
  THE WALK over classesAt, at a text that bears a written label.
-/
import Derived.Test.Qxb6604042aModsWordAt
namespace Go.Proofs.Qxb6604042aMods
open Go.RowKit

def LEI : ByteArray := ⟨#[231, 177, 187]⟩
def JJ : ByteArray := ⟨#[229, 159, 186, 233, 135, 145, 228, 187, 189, 233, 162, 157]⟩
def FE : ByteArray := ⟨#[228, 187, 189, 233, 162, 157]⟩
def SEPS : List ByteArray := [S0, S1, S2, S3, S4]

/-- What is known of the text: n items; item k begins at st k and ends at en k. -/
structure Lab (S : ByteArray) (n : Nat) (st en : Nat → Nat) (lt : Nat → UInt8) : Prop where
  len : ∀ k, k < n → st k + 4 ≤ en k ∧ en k ≤ S.size
  up : ∀ k, k < n → 65 ≤ (lt k).toNat ∧ (lt k).toNat ≤ 90
  ltr : ∀ k (_ : k < n) (h : st k < S.size), S[st k] = lt k
  lei : ∀ k, k < n → hp (S.extract (st k + 1) S.size) LEI = true
  word : ∀ k, k < n → st k + 4 + (wordF (S.extract (st k + 4) S.size) [JJ, FE]).getD 0 = en k
  sep : ∀ k, k + 1 < n → wordF (S.extract (en k) S.size) SEPS = some (st (k + 1) - en k) ∧ en k ≤ st (k + 1)
  nosep : wordF (S.extract (en (n - 1)) S.size) SEPS = none

/-- A string of one byte. -/
def one (c : UInt8) : ByteArray := ⟨#[c]⟩

/-- The letters of the first k items, repeats dropped. -/
def du (lt : Nat → UInt8) : Nat → List UInt8
  | 0 => []
  | k + 1 => if lt k ∈ du lt k then du lt k else du lt k ++ [lt k]

theorem du_length (lt : Nat → UInt8) (k : Nat) : (du lt k).length ≤ k := by
  induction k with
  | zero => simp [du]
  | succ k ih =>
    unfold du
    split
    · omega
    · rw [List.length_append, List.length_singleton]; omega
theorem du_pos (lt : Nat → UInt8) (k : Nat) : 0 < (du lt (k + 1)).length := by
  unfold du
  split
  · rename_i h; exact List.length_pos_of_mem h
  · simp

theorem memB_one (c : UInt8) (l : List UInt8) : memB (one c) (l.map one) = decide (c ∈ l) := by
  induction l with
  | nil => rfl
  | cons d l ih =>
    have e : ((one c).toList == (one d).toList) = decide (c = d) := by
      rw [Lib.toList_data, Lib.toList_data]
      unfold one
      rw [Bool.eq_iff_iff]; simp
    simp only [memB, List.map_cons, List.any_cons] at *
    rw [ih, e, Bool.eq_iff_iff]
    simp

theorem extract_one (S : ByteArray) (j : Nat) (h : j < S.size) : S.extract j (j + 1) = one S[j] := by
  apply ByteArray.ext
  apply Array.ext'
  have e := Lib.extract_data S j (j + 1)
  rw [e]
  have h2 := bl_get S j h
  unfold bl at h2
  have hl : j < S.data.toList.length := by rw [Array.length_toList]; exact h
  rw [List.getElem?_eq_getElem hl] at h2
  rw [List.drop_eq_getElem_cons hl, show j + 1 - j = 1 by omega]
  simp only [List.take_succ_cons, List.take_zero, one]
  rw [Option.some.inj h2]

def sv (s : ByteArray) : Value := .string s

theorem Trym.info9 : (Trym.prog.info? 9).map (fun i => (i.zero, i.size, i.bytes)) = some (some (.string ByteArray.empty), 1, 16) := by kernel_rfl

theorem own_srow {w : World} {base : Nat} {v : Value} {l : List ByteArray} (h : w.ownsRow base 9 1 v l.length (l.map sv)) : ∃ a c, v = .slice a l.length c ∧ SRow w a l.length l ∧ (a = none → l.length = 0 ∧ c = 0) := by
  rcases h.2 with ⟨rfl, h0⟩ | ⟨g, cap, cur, rfl, r⟩
  · exact ⟨none, 0, by rw [h0], ⟨rfl, .inl h0⟩, fun _ => ⟨h0, rfl⟩⟩
  · refine ⟨some ⟨g, 0, none⟩, cap, rfl, ⟨rfl, .inr ⟨g, 0, rfl, fun i hi => ?_⟩⟩, (fun e => by cases e)⟩
    rw [Nat.zero_add, h.cellAt i (by omega)]
    simp [sv, hi]

theorem own_srow1 {w : World} {base : Nat} {v : Value} {l : List UInt8} (h : w.ownsRow base 9 1 v l.length ((l.map one).map sv)) : ∃ a c, v = .slice a l.length c ∧ SRow w a l.length (l.map one) ∧ (a = none → l.length = 0 ∧ c = 0) := by
  have e : l.length = (l.map one).length := by simp
  rw [e] at h
  obtain ⟨a, c, h1, h2, h3⟩ := own_srow h
  rw [← e] at h1 h2 h3
  exact ⟨a, c, h1, h2, h3⟩

/-- The loop's state at item k. -/
def CState (B : Nat) (w wr : World) (lt : Nat → UInt8) (v : Value) (k : Nat) : Prop :=
  wr.ownsRow B 9 1 v (du lt k).length (((du lt k).map one).map sv) ∧ Below B w wr

/-- What classesAt hands back. -/
def ClassPost (lt : Nat → UInt8) (K E : Nat) (w : World) (e : Ending) (w' : World) : Prop :=
  ∃ a c, e = .returned (.tuple #[.slice a (du lt K).length c, .int .i64 (E : Int), .bool true]) ∧ SRow w' a (du lt K).length ((du lt K).map one) ∧ a.isNone = false ∧ Below w.heap.size w w'

/-- Words laid in a new block, as the walk lays them. -/
theorem srow_new (w : World) (ws : List ByteArray) : SRow (w.alloc (.cells (ws.map sv).toArray 9)) (some ⟨w.heap.size, 0, none⟩) ws.length ws := by
  refine ⟨rfl, .inr ⟨w.heap.size, 0, rfl, fun i hi => ?_⟩⟩
  rw [Nat.zero_add, cell_of_row _ _ _ _ _ _ (heap_alloc_new w _)]
  simp [sv, hi]

set_option maxRecDepth 100000 in
set_option maxHeartbeats 4000000 in
theorem classes26 (S : ByteArray) (i n : Nat) (st en : Nat → Nat) (lt : Nat → UInt8) (w : World) (hS : S.size ≤ 4194304) (hn : 0 < n) (h0 : st 0 = i) (hL : Lab S n st en lt)
    (hpre : ∀ (_ : 0 < i) (h1 : i - 1 < S.size), letB S[i - 1].toNat = false) :
    Calls Trym.prog 26 #[.string S, .int .i64 (i : Int)] w (ClassPost lt (min 26 n) (en (min 26 n - 1)) w) := by
  have HL := hidden hL
  have hi4 := hL.len 0 hn
  rw [h0] at hi4
  clear hL
  have hpre' : i = 0 ∨ ∃ q, i = q + 1 ∧ ∃ h : q < S.size, letB S[q].toNat = false := by
    by_cases e : i = 0
    · exact .inl e
    · exact .inr ⟨i - 1, by omega, by omega, hpre (by omega) (by omega)⟩
  have H0 := hidden h0
  clear hpre h0
  obtain ⟨i0, hi, hz0, hz1, hz2⟩ := info_parts Trym.info9
  have hstart : (∃ hz : ¬ ((0 : Int) < (i : Int)), True) ∨ ∃ q, i = q + 1 ∧ ∃ h : q < S.size, letB S[q].toNat = false := by
    rcases hpre' with hz | h
    · exact .inl ⟨by omega, trivial⟩
    · exact .inr h
  clear hpre'
  rcases hstart with ⟨hz, _⟩ | ⟨q, rfl, hqs, hql⟩
  · go_enter Trym.func26, Trym.ntmps26
    go_wp2
    go_loopw [7, 8, 9, 10] (fun v ev jv kv wr => ∃ k : Nat, k < n ∧ k ≤ 26 ∧ kv = .int .i64 k ∧ jv = .int .i64 (st k : Nat) ∧ (0 < k → ev = .int .i64 (en (k - 1) : Nat)) ∧ CState w.heap.size w wr lt v k) (fun _ _ _ kv _ => 26 - (intOf kv).toNat)
    case atStart => exact ⟨0, hn, by omega, rfl, by first | (rw [H0.out]; done) | (rw [H0.out]; go_num), (fun h => absurd h (Nat.lt_irrefl _)), World.ownsRow_nil _ _ _ _, Below.refl _ _⟩
    case round =>
      obtain ⟨k, hkn, hk26, rfl, rfl, hev, hown, hb⟩ := hrel
      have hlen := HL.out.len k hkn
      by_cases hk : k < 26
      · have t1 : (k : Int) < 26 := by omega
        have t2 : (st k : Int) + 1 < (S.size : Int) := by omega
        have hst : st k < S.size := by omega
        have hup := HL.out.up k hkn
        have hltr := HL.out.ltr k hkn hst
        have hone := extract_one S (st k) hst
        rw [hltr] at hone
        obtain ⟨av, cv, hv, hsr, hnone⟩ := own_srow1 hown
        subst hv
        have Hone := hidden hone
        have Hown := hidden hown
        have Hsr := hidden hsr
        have Hb := hidden hb
        clear hone hown hsr hb hnone hev
        have hmem := memB_one (lt k) (du lt k)
        have Hmem := hidden hmem
        clear hmem
        go_wp2_with fail
        refine (up32 _ _ hup).mono ?_
        rintro e w' ⟨rfl, hw⟩
        obtain rfl := hw.symm
        clear hw
        go_wp2_with fail
        refine (prefix33 _ _ _).mono ?_
        rintro e w' ⟨rfl, hw⟩
        obtain rfl := hw.symm
        clear hw
        have hlei := HL.out.lei k hkn
        unfold LEI at hlei
        rw [hlei]
        clear hlei
        go_wp2_with fail
        rw [Hone.out]
        refine (contains34 _ _ _ ((du lt k).map one) _ _ (by have := du_length lt k; omega) Hsr.out).mono ?_
        rintro e w' ⟨rfl, hw⟩
        obtain rfl := hw.symm
        clear hw
        rw [Hmem.out]
        by_cases hmem : lt k ∈ du lt k
        · have hdu : du lt (k + 1) = du lt k := by rw [du, if_pos hmem]
          have HC : Hid (CState w.heap.size w wr lt (.slice av (du lt k).length cv) (k + 1)) := by
            unfold CState
            rw [hdu]
            exact ⟨Hown.out, Hb.out⟩
          rw [decide_eq_true hmem]
          clear Hown Hb Hsr Hmem hmem
          go_wp2_with fail
          have hdl : (du lt (k + 1)).length = (du lt k).length := by rw [hdu]
          clear hdu
          have e4 : (st k : Int) + 1 + 3 = ((st k + 4 : Nat) : Int) := by omega
          have hword := HL.out.word k hkn
          unfold JJ FE at hword
          have hs2 : SRow (wr.alloc (.cells #[.string ⟨#[229, 159, 186, 233, 135, 145, 228, 187, 189, 233, 162, 157]⟩, .string ⟨#[228, 187, 189, 233, 162, 157]⟩] 9)) (some ⟨wr.heap.size, 0, none⟩) 2 [⟨#[229, 159, 186, 233, 135, 145, 228, 187, 189, 233, 162, 157]⟩, ⟨#[228, 187, 189, 233, 162, 157]⟩] := srow_new wr [⟨#[229, 159, 186, 233, 135, 145, 228, 187, 189, 233, 162, 157]⟩, ⟨#[228, 187, 189, 233, 162, 157]⟩]
          rw [e4]
          refine (word35 S (st k + 4) _ 2 2 [⟨#[229, 159, 186, 233, 135, 145, 228, 187, 189, 233, 162, 157]⟩, ⟨#[228, 187, 189, 233, 162, 157]⟩] _ hS (by omega) (by omega) hs2 (by decide)).mono ?_
          rintro e w' ⟨rfl, hw⟩
          obtain rfl := hw.symm
          rw [hword]
          clear hw hs2 hword e4
          have hs5 : SRow ((wr.alloc (.cells #[.string ⟨#[229, 159, 186, 233, 135, 145, 228, 187, 189, 233, 162, 157]⟩, .string ⟨#[228, 187, 189, 233, 162, 157]⟩] 9)).alloc (.cells #[.string ⟨#[227, 128, 129]⟩, .string ⟨#[229, 146, 140]⟩, .string ⟨#[229, 143, 138]⟩, .string ⟨#[228, 184, 142]⟩, .string ⟨#[47]⟩] 9)) (some ⟨wr.heap.size + 1, 0, none⟩) 5 [⟨#[227, 128, 129]⟩, ⟨#[229, 146, 140]⟩, ⟨#[229, 143, 138]⟩, ⟨#[228, 184, 142]⟩, ⟨#[47]⟩] := by
            have := srow_new (wr.alloc (.cells #[.string ⟨#[229, 159, 186, 233, 135, 145, 228, 187, 189, 233, 162, 157]⟩, .string ⟨#[228, 187, 189, 233, 162, 157]⟩] 9)) [⟨#[227, 128, 129]⟩, ⟨#[229, 146, 140]⟩, ⟨#[229, 143, 138]⟩, ⟨#[228, 184, 142]⟩, ⟨#[47]⟩]
            rw [World.size_alloc] at this
            exact this
          go_wp2_with fail
          refine (word35 S (en k) _ 5 5 [⟨#[227, 128, 129]⟩, ⟨#[229, 146, 140]⟩, ⟨#[229, 143, 138]⟩, ⟨#[228, 184, 142]⟩, ⟨#[47]⟩] _ hS hlen.2 (by omega) hs5 (by decide)).mono ?_
          rintro e w' ⟨rfl, hw⟩
          obtain rfl := hw.symm
          clear hw hs5
          have HC2 : Hid (CState w.heap.size w ((wr.alloc (.cells #[.string ⟨#[229, 159, 186, 233, 135, 145, 228, 187, 189, 233, 162, 157]⟩, .string ⟨#[228, 187, 189, 233, 162, 157]⟩] 9)).alloc (.cells #[.string ⟨#[227, 128, 129]⟩, .string ⟨#[229, 146, 140]⟩, .string ⟨#[229, 143, 138]⟩, .string ⟨#[228, 184, 142]⟩, .string ⟨#[47]⟩] 9)) lt (.slice av (du lt k).length cv) (k + 1)) := by
            have hz := HC.out.2.size
            exact ⟨(HC.out.1.alloc _).alloc _, (HC.out.2.alloc hz _).alloc (by rw [World.size_alloc]; omega) _⟩
          by_cases hkl : k + 1 < n
          · have hsep := (HL.out.sep k hkl).1
            have hle := (HL.out.sep k hkl).2
            unfold SEPS S0 S1 S2 S3 S4 at hsep
            rw [hsep]
            simp only [Option.getD_some, Option.isSome_some]
            rw [show en k + (st (k + 1) - en k) = st (k + 1) by omega]
            clear hsep hle
            go_wp2
            go_roundw
            case rel => exact ⟨k + 1, hkl, by omega, by go_num, rfl, (fun _ => rfl), HC2.out⟩
            case measure => simp [intOf]; omega
          · have hkE : n = k + 1 := by omega
            have hns := HL.out.nosep
            rw [show n - 1 = k by omega] at hns
            unfold SEPS S0 S1 S2 S3 S4 at hns
            rw [hns]
            simp only [Option.getD_none, Option.isSome_none]
            clear hns
            have hpos := du_pos lt k
            obtain ⟨a3, c3, hv3, hsr3, hn3⟩ := own_srow1 HC2.out.1
            have hmin : min 26 n = k + 1 := by omega
            have HFin : Hid (ClassPost lt (min 26 n) (en (min 26 n - 1)) w (.returned (.tuple #[(.slice av (du lt k).length cv), .int .i64 (en k : Int), .bool true])) ((wr.alloc (.cells #[.string ⟨#[229, 159, 186, 233, 135, 145, 228, 187, 189, 233, 162, 157]⟩, .string ⟨#[228, 187, 189, 233, 162, 157]⟩] 9)).alloc (.cells #[.string ⟨#[227, 128, 129]⟩, .string ⟨#[229, 146, 140]⟩, .string ⟨#[229, 143, 138]⟩, .string ⟨#[228, 184, 142]⟩, .string ⟨#[47]⟩] 9))) := by
              rw [hmin, Nat.add_sub_cancel, hv3]
              refine ⟨a3, c3, rfl, hsr3, ?_, HC2.out.2⟩
              cases ha : a3 with
              | none => exact absurd (hn3 ha).1 (by omega)
              | some x => rfl
            have hlp : decide (0 < (du lt k).length) = true := decide_eq_true (by omega)
            clear hkE hmin hpos hv3 hsr3 hn3
            try clear hdl
            go_wp2
            go_ret3
            exact HFin.out
        · have hdu : du lt (k + 1) = du lt k ++ [lt k] := by rw [du, if_neg hmem]
          rw [decide_eq_false hmem]
          have h63 : (du lt k).length + 1 ≤ maxLen := by have := du_length lt k; unfold maxLen; omega
          have hbyt : ((du lt k).length + 1) * 16 ≤ 140737488355328 := by have := du_length lt k; omega
          have hB := Hb.out.size
          clear hmem
          go_wp2_with (at_builtin; go_must (refine wpList_append_own _ rfl (.tmp 57) (.tmp 63) 27 rfl w.heap.size 9 i0 (.string ByteArray.empty) 1 16 Trym.underlying27 hi hz0 hz1 hz2 rfl (by decide) (.slice av (du lt k).length cv) (du lt k).length (((du lt k).map one).map sv) rfl (by exact Hown.out.alloc _) ⟨wr.heap.size, 0, none⟩ 1 1 [.string (S.extract (st k) (st k + 1))] rfl rfl (by exact cell_one_new _ _ _) (by intro u hu; simp at hu; subst hu; rfl) h63 hbyt (by simp; omega) ?_))
          intro v' w2 hown2 hgrow _
          have HC : Hid (CState w.heap.size w w2 lt v' (k + 1)) := by
            unfold CState
            rw [hdu]
            refine ⟨?_, ?_⟩
            · rw [Hone.out] at hown2
              simpa [sv] using hown2
            · refine (Hb.out.alloc hB _).grown hgrow (by simp; omega) ?_
              intro q hq
              exact (Hown.out.lt q hq).1
          clear hown2 hgrow Hown Hb Hsr Hmem hdu
          obtain ⟨a2, c2, hv2, _, _⟩ := own_srow1 HC.out.1
          subst hv2
          go_wp2_with fail
          have e4 : (st k : Int) + 1 + 3 = ((st k + 4 : Nat) : Int) := by omega
          have hword := HL.out.word k hkn
          unfold JJ FE at hword
          have hs2 : SRow (w2.alloc (.cells #[.string ⟨#[229, 159, 186, 233, 135, 145, 228, 187, 189, 233, 162, 157]⟩, .string ⟨#[228, 187, 189, 233, 162, 157]⟩] 9)) (some ⟨w2.heap.size, 0, none⟩) 2 [⟨#[229, 159, 186, 233, 135, 145, 228, 187, 189, 233, 162, 157]⟩, ⟨#[228, 187, 189, 233, 162, 157]⟩] := srow_new w2 [⟨#[229, 159, 186, 233, 135, 145, 228, 187, 189, 233, 162, 157]⟩, ⟨#[228, 187, 189, 233, 162, 157]⟩]
          rw [e4]
          refine (word35 S (st k + 4) _ 2 2 [⟨#[229, 159, 186, 233, 135, 145, 228, 187, 189, 233, 162, 157]⟩, ⟨#[228, 187, 189, 233, 162, 157]⟩] _ hS (by omega) (by omega) hs2 (by decide)).mono ?_
          rintro e w' ⟨rfl, hw⟩
          obtain rfl := hw.symm
          rw [hword]
          clear hw hs2 hword e4
          have hs5 : SRow ((w2.alloc (.cells #[.string ⟨#[229, 159, 186, 233, 135, 145, 228, 187, 189, 233, 162, 157]⟩, .string ⟨#[228, 187, 189, 233, 162, 157]⟩] 9)).alloc (.cells #[.string ⟨#[227, 128, 129]⟩, .string ⟨#[229, 146, 140]⟩, .string ⟨#[229, 143, 138]⟩, .string ⟨#[228, 184, 142]⟩, .string ⟨#[47]⟩] 9)) (some ⟨w2.heap.size + 1, 0, none⟩) 5 [⟨#[227, 128, 129]⟩, ⟨#[229, 146, 140]⟩, ⟨#[229, 143, 138]⟩, ⟨#[228, 184, 142]⟩, ⟨#[47]⟩] := by
            have := srow_new (w2.alloc (.cells #[.string ⟨#[229, 159, 186, 233, 135, 145, 228, 187, 189, 233, 162, 157]⟩, .string ⟨#[228, 187, 189, 233, 162, 157]⟩] 9)) [⟨#[227, 128, 129]⟩, ⟨#[229, 146, 140]⟩, ⟨#[229, 143, 138]⟩, ⟨#[228, 184, 142]⟩, ⟨#[47]⟩]
            rw [World.size_alloc] at this
            exact this
          go_wp2_with fail
          refine (word35 S (en k) _ 5 5 [⟨#[227, 128, 129]⟩, ⟨#[229, 146, 140]⟩, ⟨#[229, 143, 138]⟩, ⟨#[228, 184, 142]⟩, ⟨#[47]⟩] _ hS hlen.2 (by omega) hs5 (by decide)).mono ?_
          rintro e w' ⟨rfl, hw⟩
          obtain rfl := hw.symm
          clear hw hs5
          have HC2 : Hid (CState w.heap.size w ((w2.alloc (.cells #[.string ⟨#[229, 159, 186, 233, 135, 145, 228, 187, 189, 233, 162, 157]⟩, .string ⟨#[228, 187, 189, 233, 162, 157]⟩] 9)).alloc (.cells #[.string ⟨#[227, 128, 129]⟩, .string ⟨#[229, 146, 140]⟩, .string ⟨#[229, 143, 138]⟩, .string ⟨#[228, 184, 142]⟩, .string ⟨#[47]⟩] 9)) lt (.slice a2 (du lt (k + 1)).length c2) (k + 1)) := by
            have hz := HC.out.2.size
            exact ⟨(HC.out.1.alloc _).alloc _, (HC.out.2.alloc hz _).alloc (by rw [World.size_alloc]; omega) _⟩
          by_cases hkl : k + 1 < n
          · have hsep := (HL.out.sep k hkl).1
            have hle := (HL.out.sep k hkl).2
            unfold SEPS S0 S1 S2 S3 S4 at hsep
            rw [hsep]
            simp only [Option.getD_some, Option.isSome_some]
            rw [show en k + (st (k + 1) - en k) = st (k + 1) by omega]
            clear hsep hle
            go_wp2
            go_roundw
            case rel => exact ⟨k + 1, hkl, by omega, by go_num, rfl, (fun _ => rfl), HC2.out⟩
            case measure => simp [intOf]; omega
          · have hkE : n = k + 1 := by omega
            have hns := HL.out.nosep
            rw [show n - 1 = k by omega] at hns
            unfold SEPS S0 S1 S2 S3 S4 at hns
            rw [hns]
            simp only [Option.getD_none, Option.isSome_none]
            clear hns
            have hpos := du_pos lt k
            obtain ⟨a3, c3, hv3, hsr3, hn3⟩ := own_srow1 HC2.out.1
            have hmin : min 26 n = k + 1 := by omega
            have HFin : Hid (ClassPost lt (min 26 n) (en (min 26 n - 1)) w (.returned (.tuple #[(.slice a2 (du lt (k + 1)).length c2), .int .i64 (en k : Int), .bool true])) ((w2.alloc (.cells #[.string ⟨#[229, 159, 186, 233, 135, 145, 228, 187, 189, 233, 162, 157]⟩, .string ⟨#[228, 187, 189, 233, 162, 157]⟩] 9)).alloc (.cells #[.string ⟨#[227, 128, 129]⟩, .string ⟨#[229, 146, 140]⟩, .string ⟨#[229, 143, 138]⟩, .string ⟨#[228, 184, 142]⟩, .string ⟨#[47]⟩] 9))) := by
              rw [hmin, Nat.add_sub_cancel, hv3]
              refine ⟨a3, c3, rfl, hsr3, ?_, HC2.out.2⟩
              cases ha : a3 with
              | none => exact absurd (hn3 ha).1 (by omega)
              | some x => rfl
            have hlp : decide (0 < (du lt (k + 1)).length) = true := decide_eq_true (by omega)
            clear hkE hmin hpos hv3 hsr3 hn3
            try clear hdl
            go_wp2
            go_ret3
            exact HFin.out
      · have hkE : k = 26 := by omega
        subst hkE
        have hev' := hev (by omega)
        subst hev'
        have hpos : 0 < (du lt 26).length := du_pos lt 25
        obtain ⟨a3, c3, hv3, hsr3, hn3⟩ := own_srow1 hown
        have hmin : min 26 n = 26 := by omega
        have HFin : Hid (ClassPost lt (min 26 n) (en (min 26 n - 1)) w (.returned (.tuple #[.slice a3 (du lt 26).length c3, .int .i64 (en 25 : Nat), .bool true])) wr) := by
          rw [hmin]
          refine ⟨a3, c3, rfl, hsr3, ?_, hb⟩
          cases ha : a3 with
          | none => exact absurd (hn3 ha).1 (by omega)
          | some x => rfl
        have hlp : decide (0 < (du lt 26).length) = true := decide_eq_true (by omega)
        subst hv3
        clear hown hb hsr3 hn3 hev hmin hpos
        go_wp2
        go_ret3
        exact HFin.out
  · have hq0 : (0 : Int) < (q : Int) + 1 := by omega
    have hq1 : (q : Int) < (S.size : Int) := by omega
    go_enter Trym.func26, Trym.ntmps26
    go_wp2_with fail
    refine (notlet31 _ _ hql).mono ?_
    rintro e w' ⟨rfl, hw⟩
    obtain rfl := hw.symm
    clear hw hql
    go_wp2
    go_loopw [7, 8, 9, 10] (fun v ev jv kv wr => ∃ k : Nat, k < n ∧ k ≤ 26 ∧ kv = .int .i64 k ∧ jv = .int .i64 (st k : Nat) ∧ (0 < k → ev = .int .i64 (en (k - 1) : Nat)) ∧ CState w.heap.size w wr lt v k) (fun _ _ _ kv _ => 26 - (intOf kv).toNat)
    case atStart => exact ⟨0, hn, by omega, rfl, by first | (rw [H0.out]; done) | (rw [H0.out]; go_num), (fun h => absurd h (Nat.lt_irrefl _)), World.ownsRow_nil _ _ _ _, Below.refl _ _⟩
    case round =>
      obtain ⟨k, hkn, hk26, rfl, rfl, hev, hown, hb⟩ := hrel
      have hlen := HL.out.len k hkn
      by_cases hk : k < 26
      · have t1 : (k : Int) < 26 := by omega
        have t2 : (st k : Int) + 1 < (S.size : Int) := by omega
        have hst : st k < S.size := by omega
        have hup := HL.out.up k hkn
        have hltr := HL.out.ltr k hkn hst
        have hone := extract_one S (st k) hst
        rw [hltr] at hone
        obtain ⟨av, cv, hv, hsr, hnone⟩ := own_srow1 hown
        subst hv
        have Hone := hidden hone
        have Hown := hidden hown
        have Hsr := hidden hsr
        have Hb := hidden hb
        clear hone hown hsr hb hnone hev
        have hmem := memB_one (lt k) (du lt k)
        have Hmem := hidden hmem
        clear hmem
        go_wp2_with fail
        refine (up32 _ _ hup).mono ?_
        rintro e w' ⟨rfl, hw⟩
        obtain rfl := hw.symm
        clear hw
        go_wp2_with fail
        refine (prefix33 _ _ _).mono ?_
        rintro e w' ⟨rfl, hw⟩
        obtain rfl := hw.symm
        clear hw
        have hlei := HL.out.lei k hkn
        unfold LEI at hlei
        rw [hlei]
        clear hlei
        go_wp2_with fail
        rw [Hone.out]
        refine (contains34 _ _ _ ((du lt k).map one) _ _ (by have := du_length lt k; omega) Hsr.out).mono ?_
        rintro e w' ⟨rfl, hw⟩
        obtain rfl := hw.symm
        clear hw
        rw [Hmem.out]
        by_cases hmem : lt k ∈ du lt k
        · have hdu : du lt (k + 1) = du lt k := by rw [du, if_pos hmem]
          have HC : Hid (CState w.heap.size w wr lt (.slice av (du lt k).length cv) (k + 1)) := by
            unfold CState
            rw [hdu]
            exact ⟨Hown.out, Hb.out⟩
          rw [decide_eq_true hmem]
          clear Hown Hb Hsr Hmem hmem
          go_wp2_with fail
          have hdl : (du lt (k + 1)).length = (du lt k).length := by rw [hdu]
          clear hdu
          have e4 : (st k : Int) + 1 + 3 = ((st k + 4 : Nat) : Int) := by omega
          have hword := HL.out.word k hkn
          unfold JJ FE at hword
          have hs2 : SRow (wr.alloc (.cells #[.string ⟨#[229, 159, 186, 233, 135, 145, 228, 187, 189, 233, 162, 157]⟩, .string ⟨#[228, 187, 189, 233, 162, 157]⟩] 9)) (some ⟨wr.heap.size, 0, none⟩) 2 [⟨#[229, 159, 186, 233, 135, 145, 228, 187, 189, 233, 162, 157]⟩, ⟨#[228, 187, 189, 233, 162, 157]⟩] := srow_new wr [⟨#[229, 159, 186, 233, 135, 145, 228, 187, 189, 233, 162, 157]⟩, ⟨#[228, 187, 189, 233, 162, 157]⟩]
          rw [e4]
          refine (word35 S (st k + 4) _ 2 2 [⟨#[229, 159, 186, 233, 135, 145, 228, 187, 189, 233, 162, 157]⟩, ⟨#[228, 187, 189, 233, 162, 157]⟩] _ hS (by omega) (by omega) hs2 (by decide)).mono ?_
          rintro e w' ⟨rfl, hw⟩
          obtain rfl := hw.symm
          rw [hword]
          clear hw hs2 hword e4
          have hs5 : SRow ((wr.alloc (.cells #[.string ⟨#[229, 159, 186, 233, 135, 145, 228, 187, 189, 233, 162, 157]⟩, .string ⟨#[228, 187, 189, 233, 162, 157]⟩] 9)).alloc (.cells #[.string ⟨#[227, 128, 129]⟩, .string ⟨#[229, 146, 140]⟩, .string ⟨#[229, 143, 138]⟩, .string ⟨#[228, 184, 142]⟩, .string ⟨#[47]⟩] 9)) (some ⟨wr.heap.size + 1, 0, none⟩) 5 [⟨#[227, 128, 129]⟩, ⟨#[229, 146, 140]⟩, ⟨#[229, 143, 138]⟩, ⟨#[228, 184, 142]⟩, ⟨#[47]⟩] := by
            have := srow_new (wr.alloc (.cells #[.string ⟨#[229, 159, 186, 233, 135, 145, 228, 187, 189, 233, 162, 157]⟩, .string ⟨#[228, 187, 189, 233, 162, 157]⟩] 9)) [⟨#[227, 128, 129]⟩, ⟨#[229, 146, 140]⟩, ⟨#[229, 143, 138]⟩, ⟨#[228, 184, 142]⟩, ⟨#[47]⟩]
            rw [World.size_alloc] at this
            exact this
          go_wp2_with fail
          refine (word35 S (en k) _ 5 5 [⟨#[227, 128, 129]⟩, ⟨#[229, 146, 140]⟩, ⟨#[229, 143, 138]⟩, ⟨#[228, 184, 142]⟩, ⟨#[47]⟩] _ hS hlen.2 (by omega) hs5 (by decide)).mono ?_
          rintro e w' ⟨rfl, hw⟩
          obtain rfl := hw.symm
          clear hw hs5
          have HC2 : Hid (CState w.heap.size w ((wr.alloc (.cells #[.string ⟨#[229, 159, 186, 233, 135, 145, 228, 187, 189, 233, 162, 157]⟩, .string ⟨#[228, 187, 189, 233, 162, 157]⟩] 9)).alloc (.cells #[.string ⟨#[227, 128, 129]⟩, .string ⟨#[229, 146, 140]⟩, .string ⟨#[229, 143, 138]⟩, .string ⟨#[228, 184, 142]⟩, .string ⟨#[47]⟩] 9)) lt (.slice av (du lt k).length cv) (k + 1)) := by
            have hz := HC.out.2.size
            exact ⟨(HC.out.1.alloc _).alloc _, (HC.out.2.alloc hz _).alloc (by rw [World.size_alloc]; omega) _⟩
          by_cases hkl : k + 1 < n
          · have hsep := (HL.out.sep k hkl).1
            have hle := (HL.out.sep k hkl).2
            unfold SEPS S0 S1 S2 S3 S4 at hsep
            rw [hsep]
            simp only [Option.getD_some, Option.isSome_some]
            rw [show en k + (st (k + 1) - en k) = st (k + 1) by omega]
            clear hsep hle
            go_wp2
            go_roundw
            case rel => exact ⟨k + 1, hkl, by omega, by go_num, rfl, (fun _ => rfl), HC2.out⟩
            case measure => simp [intOf]; omega
          · have hkE : n = k + 1 := by omega
            have hns := HL.out.nosep
            rw [show n - 1 = k by omega] at hns
            unfold SEPS S0 S1 S2 S3 S4 at hns
            rw [hns]
            simp only [Option.getD_none, Option.isSome_none]
            clear hns
            have hpos := du_pos lt k
            obtain ⟨a3, c3, hv3, hsr3, hn3⟩ := own_srow1 HC2.out.1
            have hmin : min 26 n = k + 1 := by omega
            have HFin : Hid (ClassPost lt (min 26 n) (en (min 26 n - 1)) w (.returned (.tuple #[(.slice av (du lt k).length cv), .int .i64 (en k : Int), .bool true])) ((wr.alloc (.cells #[.string ⟨#[229, 159, 186, 233, 135, 145, 228, 187, 189, 233, 162, 157]⟩, .string ⟨#[228, 187, 189, 233, 162, 157]⟩] 9)).alloc (.cells #[.string ⟨#[227, 128, 129]⟩, .string ⟨#[229, 146, 140]⟩, .string ⟨#[229, 143, 138]⟩, .string ⟨#[228, 184, 142]⟩, .string ⟨#[47]⟩] 9))) := by
              rw [hmin, Nat.add_sub_cancel, hv3]
              refine ⟨a3, c3, rfl, hsr3, ?_, HC2.out.2⟩
              cases ha : a3 with
              | none => exact absurd (hn3 ha).1 (by omega)
              | some x => rfl
            have hlp : decide (0 < (du lt k).length) = true := decide_eq_true (by omega)
            clear hkE hmin hpos hv3 hsr3 hn3
            try clear hdl
            go_wp2
            go_ret3
            exact HFin.out
        · have hdu : du lt (k + 1) = du lt k ++ [lt k] := by rw [du, if_neg hmem]
          rw [decide_eq_false hmem]
          have h63 : (du lt k).length + 1 ≤ maxLen := by have := du_length lt k; unfold maxLen; omega
          have hbyt : ((du lt k).length + 1) * 16 ≤ 140737488355328 := by have := du_length lt k; omega
          have hB := Hb.out.size
          clear hmem
          go_wp2_with (at_builtin; go_must (refine wpList_append_own _ rfl (.tmp 57) (.tmp 63) 27 rfl w.heap.size 9 i0 (.string ByteArray.empty) 1 16 Trym.underlying27 hi hz0 hz1 hz2 rfl (by decide) (.slice av (du lt k).length cv) (du lt k).length (((du lt k).map one).map sv) rfl (by exact Hown.out.alloc _) ⟨wr.heap.size, 0, none⟩ 1 1 [.string (S.extract (st k) (st k + 1))] rfl rfl (by exact cell_one_new _ _ _) (by intro u hu; simp at hu; subst hu; rfl) h63 hbyt (by simp; omega) ?_))
          intro v' w2 hown2 hgrow _
          have HC : Hid (CState w.heap.size w w2 lt v' (k + 1)) := by
            unfold CState
            rw [hdu]
            refine ⟨?_, ?_⟩
            · rw [Hone.out] at hown2
              simpa [sv] using hown2
            · refine (Hb.out.alloc hB _).grown hgrow (by simp; omega) ?_
              intro q hq
              exact (Hown.out.lt q hq).1
          clear hown2 hgrow Hown Hb Hsr Hmem hdu
          obtain ⟨a2, c2, hv2, _, _⟩ := own_srow1 HC.out.1
          subst hv2
          go_wp2_with fail
          have e4 : (st k : Int) + 1 + 3 = ((st k + 4 : Nat) : Int) := by omega
          have hword := HL.out.word k hkn
          unfold JJ FE at hword
          have hs2 : SRow (w2.alloc (.cells #[.string ⟨#[229, 159, 186, 233, 135, 145, 228, 187, 189, 233, 162, 157]⟩, .string ⟨#[228, 187, 189, 233, 162, 157]⟩] 9)) (some ⟨w2.heap.size, 0, none⟩) 2 [⟨#[229, 159, 186, 233, 135, 145, 228, 187, 189, 233, 162, 157]⟩, ⟨#[228, 187, 189, 233, 162, 157]⟩] := srow_new w2 [⟨#[229, 159, 186, 233, 135, 145, 228, 187, 189, 233, 162, 157]⟩, ⟨#[228, 187, 189, 233, 162, 157]⟩]
          rw [e4]
          refine (word35 S (st k + 4) _ 2 2 [⟨#[229, 159, 186, 233, 135, 145, 228, 187, 189, 233, 162, 157]⟩, ⟨#[228, 187, 189, 233, 162, 157]⟩] _ hS (by omega) (by omega) hs2 (by decide)).mono ?_
          rintro e w' ⟨rfl, hw⟩
          obtain rfl := hw.symm
          rw [hword]
          clear hw hs2 hword e4
          have hs5 : SRow ((w2.alloc (.cells #[.string ⟨#[229, 159, 186, 233, 135, 145, 228, 187, 189, 233, 162, 157]⟩, .string ⟨#[228, 187, 189, 233, 162, 157]⟩] 9)).alloc (.cells #[.string ⟨#[227, 128, 129]⟩, .string ⟨#[229, 146, 140]⟩, .string ⟨#[229, 143, 138]⟩, .string ⟨#[228, 184, 142]⟩, .string ⟨#[47]⟩] 9)) (some ⟨w2.heap.size + 1, 0, none⟩) 5 [⟨#[227, 128, 129]⟩, ⟨#[229, 146, 140]⟩, ⟨#[229, 143, 138]⟩, ⟨#[228, 184, 142]⟩, ⟨#[47]⟩] := by
            have := srow_new (w2.alloc (.cells #[.string ⟨#[229, 159, 186, 233, 135, 145, 228, 187, 189, 233, 162, 157]⟩, .string ⟨#[228, 187, 189, 233, 162, 157]⟩] 9)) [⟨#[227, 128, 129]⟩, ⟨#[229, 146, 140]⟩, ⟨#[229, 143, 138]⟩, ⟨#[228, 184, 142]⟩, ⟨#[47]⟩]
            rw [World.size_alloc] at this
            exact this
          go_wp2_with fail
          refine (word35 S (en k) _ 5 5 [⟨#[227, 128, 129]⟩, ⟨#[229, 146, 140]⟩, ⟨#[229, 143, 138]⟩, ⟨#[228, 184, 142]⟩, ⟨#[47]⟩] _ hS hlen.2 (by omega) hs5 (by decide)).mono ?_
          rintro e w' ⟨rfl, hw⟩
          obtain rfl := hw.symm
          clear hw hs5
          have HC2 : Hid (CState w.heap.size w ((w2.alloc (.cells #[.string ⟨#[229, 159, 186, 233, 135, 145, 228, 187, 189, 233, 162, 157]⟩, .string ⟨#[228, 187, 189, 233, 162, 157]⟩] 9)).alloc (.cells #[.string ⟨#[227, 128, 129]⟩, .string ⟨#[229, 146, 140]⟩, .string ⟨#[229, 143, 138]⟩, .string ⟨#[228, 184, 142]⟩, .string ⟨#[47]⟩] 9)) lt (.slice a2 (du lt (k + 1)).length c2) (k + 1)) := by
            have hz := HC.out.2.size
            exact ⟨(HC.out.1.alloc _).alloc _, (HC.out.2.alloc hz _).alloc (by rw [World.size_alloc]; omega) _⟩
          by_cases hkl : k + 1 < n
          · have hsep := (HL.out.sep k hkl).1
            have hle := (HL.out.sep k hkl).2
            unfold SEPS S0 S1 S2 S3 S4 at hsep
            rw [hsep]
            simp only [Option.getD_some, Option.isSome_some]
            rw [show en k + (st (k + 1) - en k) = st (k + 1) by omega]
            clear hsep hle
            go_wp2
            go_roundw
            case rel => exact ⟨k + 1, hkl, by omega, by go_num, rfl, (fun _ => rfl), HC2.out⟩
            case measure => simp [intOf]; omega
          · have hkE : n = k + 1 := by omega
            have hns := HL.out.nosep
            rw [show n - 1 = k by omega] at hns
            unfold SEPS S0 S1 S2 S3 S4 at hns
            rw [hns]
            simp only [Option.getD_none, Option.isSome_none]
            clear hns
            have hpos := du_pos lt k
            obtain ⟨a3, c3, hv3, hsr3, hn3⟩ := own_srow1 HC2.out.1
            have hmin : min 26 n = k + 1 := by omega
            have HFin : Hid (ClassPost lt (min 26 n) (en (min 26 n - 1)) w (.returned (.tuple #[(.slice a2 (du lt (k + 1)).length c2), .int .i64 (en k : Int), .bool true])) ((w2.alloc (.cells #[.string ⟨#[229, 159, 186, 233, 135, 145, 228, 187, 189, 233, 162, 157]⟩, .string ⟨#[228, 187, 189, 233, 162, 157]⟩] 9)).alloc (.cells #[.string ⟨#[227, 128, 129]⟩, .string ⟨#[229, 146, 140]⟩, .string ⟨#[229, 143, 138]⟩, .string ⟨#[228, 184, 142]⟩, .string ⟨#[47]⟩] 9))) := by
              rw [hmin, Nat.add_sub_cancel, hv3]
              refine ⟨a3, c3, rfl, hsr3, ?_, HC2.out.2⟩
              cases ha : a3 with
              | none => exact absurd (hn3 ha).1 (by omega)
              | some x => rfl
            have hlp : decide (0 < (du lt (k + 1)).length) = true := decide_eq_true (by omega)
            clear hkE hmin hpos hv3 hsr3 hn3
            try clear hdl
            go_wp2
            go_ret3
            exact HFin.out
      · have hkE : k = 26 := by omega
        subst hkE
        have hev' := hev (by omega)
        subst hev'
        have hpos : 0 < (du lt 26).length := du_pos lt 25
        obtain ⟨a3, c3, hv3, hsr3, hn3⟩ := own_srow1 hown
        have hmin : min 26 n = 26 := by omega
        have HFin : Hid (ClassPost lt (min 26 n) (en (min 26 n - 1)) w (.returned (.tuple #[.slice a3 (du lt 26).length c3, .int .i64 (en 25 : Nat), .bool true])) wr) := by
          rw [hmin]
          refine ⟨a3, c3, rfl, hsr3, ?_, hb⟩
          cases ha : a3 with
          | none => exact absurd (hn3 ha).1 (by omega)
          | some x => rfl
        have hlp : decide (0 < (du lt 26).length) = true := decide_eq_true (by omega)
        subst hv3
        clear hown hb hsr3 hn3 hev hmin hpos
        go_wp2
        go_ret3
        exact HFin.out

theorem zzclasses14 (S : ByteArray) (i n : Nat) (st en : Nat → Nat) (lt : Nat → UInt8) (w : World) (hS : S.size ≤ 4194304) (hn : 0 < n) (h0 : st 0 = i) (hL : Lab S n st en lt)
    (hpre : ∀ (_ : 0 < i) (h1 : i - 1 < S.size), letB S[i - 1].toNat = false) :
    Calls Trym.prog 14 #[.string S, .int .i64 (i : Int)] w (ClassPost lt (min 26 n) (en (min 26 n - 1)) w) := by
  have HC := hidden (classes26 S i n st en lt w hS hn h0 hL hpre)
  clear h0 hL hpre
  generalize min 26 n = K at *
  generalize en (K - 1) = E at *
  go_enter Trym.func14, Trym.ntmps14
  go_wp2_with fail
  refine HC.out.mono ?_
  rintro e w' ⟨a, c, rfl, h1, h2, h3⟩
  have HF : Hid (ClassPost lt K E w (.returned (.tuple #[.slice a (du lt K).length c, .int .i64 (E : Int), .bool true])) w') := ⟨a, c, rfl, h1, h2, h3⟩
  clear h1 h2 h3 HC
  go_wp2
  go_ret3
  exact HF.out

end Go.Proofs.Qxb6604042aMods
