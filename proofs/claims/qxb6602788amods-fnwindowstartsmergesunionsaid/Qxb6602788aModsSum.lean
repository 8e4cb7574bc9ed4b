/-
  THE WALKS over zzBytes_.., sum, ZZSum, copyFloats.
-/
import Derived.Test.Qxb6602788aModsProg
import Derived.Test.Qxb6602788aModsFloat
import Derived.WalkKit
import Derived.WalkSpells
import Derived.WalkLawsBesides
import Derived.Deep.Draws
namespace Go.Proofs.Qxb6602788aMods
open Go.RowKit

/-- A store of a double (the kit has the law for ints, bools, pointers, slices, strings). -/
theorem run_store_float (P : Program) (w : World) (a : Addr) (m : Mode) (k : FloatKind) (n : Nat) : (store a (.float k n) m).run P w = stored P w a (.float k n) m := run_store P w a _ m rfl
attribute [local go_sem] run_store_float

/-- What '+' hands back: the rounded sum, or some NaN where there is none. -/
def AddR (x y r : Nat) : Prop := Ieee.double.add x y = some r ∨ (Ieee.double.add x y = none ∧ ¬ Fl.Num r)

def SumFrom : Nat → List Nat → Nat → Prop
  | acc, [], r => r = acc
  | acc, x :: xs, r => ∃ s, AddR acc x s ∧ SumFrom s xs r

theorem sumFrom_snoc (a : Nat) (l : List Nat) (x r : Nat) : SumFrom a (l ++ [x]) r ↔ ∃ s, SumFrom a l s ∧ AddR s x r := by
  induction l generalizing a with
  | nil => simp [SumFrom]
  | cons y l ih =>
    simp only [List.cons_append, SumFrom, ih]
    constructor
    · rintro ⟨s, h1, t, h2, h3⟩; exact ⟨t, ⟨s, h1, h2⟩, h3⟩
    · rintro ⟨t, ⟨s, h1, h2⟩, h3⟩; exact ⟨s, h1, t, h2, h3⟩

/-- The bits that the tape gives where a sum is a NaN. -/
def nanOf (w : World) (x y : Nat) : Nat := (Question.nanBits .f64 x y).cut (w.tape w.drawn (.nanBits .f64 x y))

theorem nanOf_nan (w : World) (x y : Nat) : ¬ Fl.Num (nanOf w x y) := by
  unfold nanOf Fl.Num Fl.rg
  generalize w.tape w.drawn (.nanBits .f64 x y) = t
  simp only [Question.cut]
  have h1 : (t / 2) % (2 ^ 52 - 1) < 2 ^ 52 - 1 := Nat.mod_lt _ (by omega)
  have h2 : t % 2 < 2 := Nat.mod_lt _ (by omega)
  have e1 : Fl.sw = 9223372036854775808 := rfl
  have e2 : Fl.inf = 9218868437227405312 := rfl
  rw [e1, e2]
  generalize t / 2 % (2 ^ 52 - 1) = v at *
  generalize t % 2 = u at *
  have hu : u = 0 ∨ u = 1 := by omega
  rcases hu with rfl | rfl <;> omega

theorem nanOf_lt (w : World) (x y : Nat) : nanOf w x y < 2 ^ 64 := by
  unfold nanOf
  generalize w.tape w.drawn (.nanBits .f64 x y) = t
  simp only [Question.cut]
  have h1 : (t / 2) % (2 ^ 52 - 1) < 2 ^ 52 - 1 := Nat.mod_lt _ (by omega)
  have h2 : t % 2 < 2 := Nat.mod_lt _ (by omega)
  omega

theorem run_add_nan {P : Program} (w : World) (t : TypeId) (x y : Nat) (h : Ieee.double.add x y = none) :
    (binOp .add t (.float .f64 x) (.float .f64 y)).run P w = .ok (.float .f64 (nanOf w x y)) w.drew := by
  have h' : FloatKind.f64.format.add x y = none := h
  simp [binOp, Op.floatArith, h', Question.forced, nanOf]

/-- A row of doubles in memory. -/
def FRow (w : World) (a : Option Addr) (n : Nat) (fs : List Nat) : Prop :=
  fs.length = n ∧ (n = 0 ∨ ∃ b off, a = some ⟨b, off, none⟩ ∧ ∀ i, i < n → w.cell? ⟨b, off + i, none⟩ = some (.float .f64 (fs.getD i 0)))

theorem FRow.drewN {w : World} {a : Option Addr} {n : Nat} {fs : List Nat} (h : FRow w a n fs) (m : Nat) : FRow (w.drewN m) a n fs := h

/-! ### zzBytes -/
set_option maxHeartbeats 400000 in
theorem bytes24 (a : Option Addr) (n c : Nat) (w : World) (hn : n ≤ maxLen) :
    Calls Trym.prog 24 #[.slice a n c] w fun e w' => e = .returned (.bool (decide (n ≤ 1048576))) ∧ w' = w := by
  unfold maxLen at hn
  by_cases h : n ≤ 1048576
  · have h' : ¬ ((1048576 : Int) < (n : Int)) := by omega
    go_enter Trym.func24, Trym.ntmps24
    go_wp2
    go_ret
    exact ⟨by simp, rfl⟩
  · have h' : ((1048576 : Int) < (n : Int)) := by omega
    go_enter Trym.func24, Trym.ntmps24
    go_wp2
    go_ret
    exact ⟨by simp [h], rfl⟩

/-! ### sum -/
set_option maxHeartbeats 1000000 in
theorem sum30 (a : Option Addr) (n c : Nat) (fs : List Nat) (w : World) (hn : n ≤ maxLen) (hr : FRow w a n fs) :
    Calls Trym.prog 30 #[.slice a n c] w fun e w' => ∃ r m, e = .returned (.float .f64 r) ∧ SumFrom 0 fs r ∧ w' = w.drewN m := by
  unfold maxLen at hn
  obtain ⟨hl, hr⟩ := hr
  go_enter Trym.func30, Trym.ntmps30
  go_wp2
  go_loopw [3, 8] (fun t i wr => ∃ (k acc m : Nat), k ≤ n ∧ i = .int .i64 k ∧ t = .float .f64 acc ∧ SumFrom 0 (fs.take k) acc ∧ wr = w.drewN m) (fun _ i _ => n - (intOf i).toNat)
  case atStart => exact ⟨0, 0, 0, Nat.zero_le _, rfl, rfl, rfl, rfl⟩
  case round =>
    obtain ⟨k, acc, m, hk, rfl, rfl, hs, rfl⟩ := hrel
    by_cases hlt : k < n
    · obtain ⟨b, off, rfl, hc⟩ := hr.resolve_left (by omega)
      have hck := hc k hlt
      have hts : fs.take (k + 1) = fs.take k ++ [fs.getD k 0] := by
        rw [List.take_succ_eq_append_getElem (by omega)]; simp [List.getD, show k < fs.length by omega]
      generalize hx : fs.getD k 0 = x at *
      have HT : Hid (fs.take (k + 1) = fs.take k ++ [x]) := hts
      have HS : Hid (SumFrom 0 (fs.take k) acc) := hs
      clear hts hs hx hc
      cases hadd : Ieee.double.add acc x with
      | some r =>
        have hrun := fun (w : World) => run_float_arith (P := Trym.prog) w .add 29 .f64 acc x r hadd
        have HA : Hid (Ieee.double.add acc x = some r) := hadd
        clear hadd
        go_wp2
        go_roundw
        case rel => exact ⟨k + 1, r, m, by omega, by go_num, rfl, by rw [HT.out, sumFrom_snoc]; exact ⟨acc, HS.out, .inl HA.out⟩, rfl⟩
        case measure => simp [intOf]; omega
      | none =>
        have hrun := fun (w : World) => run_add_nan (P := Trym.prog) w 29 acc x hadd
        have HA : Hid (Ieee.double.add acc x = none) := hadd
        clear hadd
        go_wp2
        go_roundw
        case rel => exact ⟨k + 1, _, m + 1, by omega, by go_num, rfl, by rw [HT.out, sumFrom_snoc]; exact ⟨acc, HS.out, .inr ⟨HA.out, nanOf_nan _ _ _⟩⟩, rfl⟩
        case measure => simp [intOf]; omega
    · have hkn : k = n := by omega
      go_wp2
      go_ret
      refine ⟨acc, m, rfl, ?_, rfl⟩
      rw [List.take_of_length_le (by omega)] at hs
      exact hs

theorem zzsum22 (a : Option Addr) (n c : Nat) (fs : List Nat) (w : World) (hn : n ≤ maxLen) (hr : FRow w a n fs) :
    Calls Trym.prog 22 #[.slice a n c] w fun e w' => ∃ r m, e = .returned (.float .f64 r) ∧ SumFrom 0 fs r ∧ w' = w.drewN m := by
  go_enter Trym.func22, Trym.ntmps22
  go_wp2_with (go_at_call 30; refine (sum30 _ _ _ fs _ hn hr).mono ?_; rintro e w' ⟨r, m, rfl, hs, rfl⟩)
  go_ret
  exact ⟨r, m, rfl, hs, rfl⟩

/-! ### copyFloats -/
/-- A slice of n doubles is handed back; nothing old has turned. -/
def GivesRow (w : World) (n : Nat) (fs : List Nat) (e : Ending) (w' : World) : Prop := ∃ a' c', e = .returned (.slice a' n c') ∧ FRow w' a' n fs ∧ Below w.heap.size w w'
theorem Trym.info29 : (Trym.prog.info? 29).map (fun i => (i.zero, i.size, i.bytes)) = some (some (.float .f64 0), 1, 8) := by kernel_rfl

/-- The first k of fs, the rest zero. -/
def upto (n k : Nat) (fs : List Nat) : List Value := (List.range n).map fun i => .float .f64 (if i < k then fs.getD i 0 else 0)

theorem upto_zero (n : Nat) (fs : List Nat) : List.replicate n (Value.float .f64 0) = upto n 0 fs := by
  apply List.ext_getElem?
  intro j
  by_cases h : j < n <;> simp [upto, h]

theorem upto_set (n k : Nat) (fs : List Nat) : (upto n k fs).set k (.float .f64 (fs.getD k 0)) = upto n (k + 1) fs := by
  apply List.ext_getElem?
  intro j
  rw [List.getElem?_set]
  by_cases h : j < n
  · by_cases e : k = j
    · subst e; simp [upto, h]
    · have : (j < k + 1) ↔ j < k := by omega
      simp [upto, h, e, this]
  · by_cases e : k = j
    · subst e; simp [upto, h]
    · simp [upto, h, e]

theorem upto_get (n k j : Nat) (fs : List Nat) (h : j < n) : (upto n k fs)[j]? = some (.float .f64 (if j < k then fs.getD j 0 else 0)) := by simp [upto, h]

set_option maxHeartbeats 1000000 in
theorem copy25 (a : Option Addr) (n c : Nat) (fs : List Nat) (w : World) (hn : n ≤ 1048576) (hr : FRow w a n fs) (h0 : a = none → n = 0 ∧ c = 0) :
    Calls Trym.prog 25 #[.slice a n c] w (GivesRow w n fs) := by
  have q1 := fun (w : World) (a : Option Addr) (n c : Nat) => Lib.run_eql_slice_nil (P := Trym.prog) w 25 29 a n c 0 0 Trym.underlying25
  obtain ⟨i0, hi, hz0, hz1, hz2⟩ := info_parts Trym.info29
  have hby : i0.bytes * n ≤ 281474976710656 := by rw [hz2]; omega
  cases a with
  | none =>
    obtain ⟨rfl, rfl⟩ := h0 rfl
    go_enter Trym.func25, Trym.ntmps25
    go_wp2
    go_ret
    exact ⟨none, 0, rfl, hr, Below.refl _ _⟩
  | some x =>
    obtain ⟨hl, hr⟩ := hr
    go_enter Trym.func25, Trym.ntmps25
    go_wp2_with (at_make; refine wpList_make_full _ rfl _ _ 25 rfl w.heap.size 29 i0 (.float .f64 0) 1 Trym.underlying25 hi hz0 hz1 _ _ _ _ n rfl rfl rfl rfl hby (by unfold maxLen; omega) (Nat.le_refl _) ?_)
    intro w1 hown hgrow
    have hb1 : Below w.heap.size w w1 := (Below.refl _ _).grown hgrow (Nat.le_refl _) (by intro k hk; cases hk)
    have hown' : w1.ownsRow w.heap.size 29 1 (.slice (some ⟨w.heap.size, 0, none⟩) n n) n (upto n 0 fs) := by
      rw [← upto_zero, ← toList_madeCells_one]; simpa using hown
    clear hown hgrow
    go_wp2
    go_loopw [4] (fun i wr => ∃ k : Nat, k ≤ n ∧ i = .int .i64 k ∧ wr.ownsRow w.heap.size 29 1 (.slice (some ⟨w.heap.size, 0, none⟩) n n) n (upto n k fs) ∧ Below w.heap.size w wr) (fun i _ => n - (intOf i).toNat)
    case atStart => exact ⟨0, Nat.zero_le _, rfl, hown', hb1⟩
    case round =>
      obtain ⟨k, hk, rfl, hown, hb⟩ := hrel
      by_cases hlt : k < n
      · obtain ⟨b, off, hx, hc⟩ := hr.resolve_left (by omega)
        obtain rfl := Option.some.inj hx
        have hck : wr.cell? ⟨b, off + k, none⟩ = some (.float .f64 (fs.getD k 0)) := cell_later hb (hc k hlt)
        have hco : wr.cell? ⟨w.heap.size, k, none⟩ = some (.float .f64 0) := by
          rw [hown.cellAt k (by omega), upto_get _ _ _ _ hlt, if_neg (by omega)]
        have hfo := hown.frozenAt k
        have hst := hown.stored k (.float .f64 (fs.getD k 0))
        rw [upto_set] at hst
        have hbb : Below w.heap.size w (wr.setCell ⟨w.heap.size, k, none⟩ (.float .f64 (fs.getD k 0))) := hb.setCell (Nat.le_refl _) _
        have H1 : Hid _ := hst.1
        have H2 : Hid _ := hbb
        clear hst hbb hown hb hc hx hown' hb1
        generalize fs.getD k 0 = x at *
        go_wp2
        go_roundw
        case rel => exact ⟨k + 1, by omega, by go_num, H1.out, H2.out⟩
        case measure => simp [intOf]; omega
      · go_wp2
        go_ret
        refine ⟨_, _, rfl, ⟨hl, .inr ⟨_, 0, rfl, ?_⟩⟩, hb⟩
        intro i hi
        rw [Nat.zero_add, hown.cellAt i (by omega), upto_get _ _ _ _ hi, if_pos (by omega)]

end Go.Proofs.Qxb6602788aMods
