/-
  THE WALKS over HasPrefix, b1HasAt, b1SeparatorLen, b1Separator, the letters' tests.
-/
import Derived.Test.Qxb6604042aModsLabel
import Derived.Lib.IndexBytes
import Derived.Deep.QuietTactic
import Derived.BigQuiet
namespace Go.Proofs.Qxb6604042aMods
open Go.RowKit

def bl (s : ByteArray) : List UInt8 := s.data.toList
/-- Does x open with p? -/
def hp (x p : ByteArray) : Bool := (bl x).take p.size == bl p

theorem bl_length (s : ByteArray) : (bl s).length = s.size := by unfold bl; rw [Array.length_toList]; rfl
theorem bl_extract (s : ByteArray) (a b : Nat) : bl (s.extract a b) = ((bl s).drop a).take (b - a) := Lib.extract_data s a b
theorem bl_get (s : ByteArray) (i : Nat) (h : i < s.size) : (bl s)[i]? = some s[i] := by
  unfold bl
  rw [Array.getElem?_toList]
  exact Array.getElem?_eq_getElem h

theorem hp_short {x p : ByteArray} (h : x.size < p.size) : hp x p = false := by
  unfold hp
  rw [beq_eq_false_iff_ne]
  intro e
  have := congrArg List.length e
  rw [List.length_take, bl_length, bl_length] at this
  omega

theorem hp_ext (x p : ByteArray) : ((x.extract 0 p.size).toList == p.toList) = hp x p := by
  unfold hp
  rw [Lib.toList_data, Lib.toList_data]
  have := bl_extract x 0 p.size
  unfold bl at this ⊢
  rw [this]; simp

set_option maxHeartbeats 400000 in
theorem prefix38 (x p : ByteArray) (w : World) :
    Calls Trym.prog 38 #[.string x, .string p] w fun e w' => e = .returned (.bool (hp x p)) ∧ w' = w := by
  by_cases h : p.size ≤ x.size
  · have h1 : (p.size : Int) ≤ (x.size : Int) := by omega
    go_enter Trym.func38, Trym.ntmps38
    go_wp2
    go_ret
    exact ⟨by rw [← hp_ext]; rfl, rfl⟩
  · have h1 : ¬ ((p.size : Int) ≤ (x.size : Int)) := by omega
    go_enter Trym.func38, Trym.ntmps38
    go_wp2
    go_ret
    exact ⟨by rw [hp_short (by omega)]; rfl, rfl⟩

theorem prefix33 (x p : ByteArray) (w : World) :
    Calls Trym.prog 33 #[.string x, .string p] w fun e w' => e = .returned (.bool (hp x p)) ∧ w' = w := by
  go_enter Trym.func33, Trym.ntmps33
  go_wp2_with (go_at_call 38; refine (prefix38 _ _ _).mono ?_; rintro e w' ⟨rfl, hw⟩; obtain rfl := hw.symm; clear hw)
  go_ret
  exact ⟨rfl, rfl⟩

/-! ### b1HasAt at the head -/
theorem hp_bytes {x p : ByteArray} (h : p.size ≤ x.size) (hall : ∀ k (h1 : k < p.size) (h2 : k < x.size), x[k] = p[k]) : hp x p = true := by
  unfold hp
  rw [beq_iff_eq]
  apply List.ext_getElem?
  intro k
  rw [List.getElem?_take]
  by_cases hk : k < p.size
  · rw [if_pos hk, bl_get x k (by omega), bl_get p k hk, hall k hk (by omega)]
  · rw [if_neg hk, List.getElem?_eq_none (by rw [bl_length]; omega)]
theorem hp_not {x p : ByteArray} {k : Nat} (h1 : k < p.size) (h2 : k < x.size) (hne : x[k] ≠ p[k]) : hp x p = false := by
  unfold hp
  rw [beq_eq_false_iff_ne]
  intro e
  have := congrArg (fun l => l[k]?) e
  simp only [List.getElem?_take, if_pos h1, bl_get x k h2, bl_get p k h1] at this
  exact hne (Option.some.inj this)

theorem u8_ne {a b : UInt8} (h : a ≠ b) : ((a.toNat : Int) != (b.toNat : Int)) = true := by
  rw [bne_iff_ne]
  intro e
  exact h (UInt8.toNat_inj.1 (by omega))

/-- b is handed back; some draws were made. -/
def SaysB (b : Bool) (w : World) (e : Ending) (w' : World) : Prop := ∃ m, e = .returned (.bool b) ∧ w' = w.drewN m

set_option maxHeartbeats 1000000 in
theorem hasat27 (x p : ByteArray) (w : World) (hx : x.size ≤ 4194304) (_hps : p.size ≤ 4194304) :
    Calls Trym.prog 27 #[.string x, .int .i64 0, .string p] w (SaysB (hp x p) w) := by
  have h0 : ¬ ((x.size : Int) < 0) := by omega
  by_cases h : p.size ≤ x.size
  · have h1 : ¬ ((x.size : Int) < (p.size : Int)) := by omega
    go_enter Trym.func27, Trym.ntmps27
    go_wp2
    go_loopw [7] (fun kv wr => ∃ k m : Nat, k ≤ p.size ∧ kv = .int .i64 k ∧ (∀ j (h1 : j < p.size) (h2 : j < x.size), j < k → x[j] = p[j]) ∧ wr = w.drewN m) (fun kv _ => p.size - (intOf kv).toNat)
    case atStart => exact ⟨0, 0, Nat.zero_le _, rfl, fun j _ _ hj => absurd hj (Nat.not_lt_zero _), rfl⟩
    case round =>
      obtain ⟨k, m, hk, rfl, hall, rfl⟩ := hrel
      have HA := hidden hall
      clear hall
      by_cases hlt : k < p.size
      · have hkx : k < x.size := by omega
        have i1 : (k : Int) < (p.size : Int) := by omega
        have i2 : (k : Int) < (x.size : Int) := by omega
        by_cases heq : x[k] = p[k]
        · have hb : ((x[k].toNat : Int) != (p[k].toNat : Int)) = false := by rw [heq]; simp
          have HE := hidden heq
          clear heq
          go_wp2
          go_quiet (fail)
          go_wp2
          go_roundw
          case rel =>
            refine ⟨k + 1, m + nq, by omega, by go_num, ?_, rfl⟩
            intro j h1 h2 hj
            by_cases e : j = k
            · subst e; exact HE.out
            · exact HA.out j h1 h2 (by omega)
          case measure => simp [intOf]; omega
        · have hb := u8_ne heq
          have HF := hidden (hp_not hlt hkx heq)
          clear heq
          go_wp2
          go_quiet (fail)
          go_wp2
          go_ret
          exact ⟨m + nq, by rw [HF.out]; rfl, by simp⟩
      · have HF := hidden (hp_bytes h (fun j h1 h2 => HA.out j h1 h2 (by omega)))
        go_wp2
        go_ret
        exact ⟨m, by rw [HF.out]; rfl, rfl⟩
  · have h1 : ((x.size : Int) < (p.size : Int)) := by omega
    have HF := hidden (hp_short (x := x) (p := p) (by omega))
    go_enter Trym.func27, Trym.ntmps27
    go_wp2
    go_ret
    exact ⟨0, by rw [HF.out]; rfl, rfl⟩

/-! ### b1SeparatorLen at the head -/
def S0 : ByteArray := ⟨#[227, 128, 129]⟩
def S1 : ByteArray := ⟨#[229, 146, 140]⟩
def S2 : ByteArray := ⟨#[229, 143, 138]⟩
def S3 : ByteArray := ⟨#[228, 184, 142]⟩
def S4 : ByteArray := ⟨#[47]⟩

/-- Some separator opens x. -/
def anySep (x : ByteArray) : Bool := hp x S0 || hp x S1 || hp x S2 || hp x S3 || hp x S4

def SaysLen (b : Bool) (w : World) (e : Ending) (w' : World) : Prop := ∃ (m : Nat) (n : Int), e = .returned (.int .i64 n) ∧ ((0 : Int) < n ↔ b = true) ∧ w' = w.drewN m

set_option maxHeartbeats 2000000 in
theorem seplen18 (x : ByteArray) (w : World) (hx : x.size ≤ 4194304) :
    Calls Trym.prog 18 #[.string x, .int .i64 0] w (SaysLen (anySep x) w) := by
  go_enter Trym.func18, Trym.ntmps18
  go_wp2_with fail
  refine (hasat27 x S0 _ hx (by decide)).mono ?_
  rintro e w' ⟨m0, rfl, rfl⟩
  cases h0 : hp x S0 with
  | true =>
    go_wp2
    go_ret
    exact ⟨m0, 3, rfl, by simp [anySep, h0], rfl⟩
  | false =>
    go_wp2_with fail
    refine (hasat27 x S1 _ hx (by decide)).mono ?_
    rintro e w' ⟨m1, rfl, rfl⟩
    cases h1 : hp x S1 with
    | true =>
      go_wp2
      go_ret
      exact ⟨m0 + m1, 3, rfl, by simp [anySep, h1], by simp⟩
    | false =>
      go_wp2_with fail
      refine (hasat27 x S2 _ hx (by decide)).mono ?_
      rintro e w' ⟨m2, rfl, rfl⟩
      cases h2 : hp x S2 with
      | true =>
        go_wp2
        go_ret
        exact ⟨m0 + m1 + m2, 3, rfl, by simp [anySep, h2], by simp⟩
      | false =>
        go_wp2_with fail
        refine (hasat27 x S3 _ hx (by decide)).mono ?_
        rintro e w' ⟨m3, rfl, rfl⟩
        cases h3 : hp x S3 with
        | true =>
          go_wp2
          go_ret
          exact ⟨m0 + m1 + m2 + m3, 3, rfl, by simp [anySep, h3], by simp⟩
        | false =>
          go_wp2_with fail
          refine (hasat27 x S4 _ hx (by decide)).mono ?_
          rintro e w' ⟨m4, rfl, rfl⟩
          cases h4 : hp x S4 with
          | true =>
            go_wp2
            go_ret
            exact ⟨m0 + m1 + m2 + m3 + m4, 1, rfl, by simp [anySep, h4], by simp⟩
          | false =>
            go_wp2
            go_ret
            exact ⟨m0 + m1 + m2 + m3 + m4, 0, rfl, by simp [anySep, h0, h1, h2, h3, h4], by simp⟩

/-! ### b1Separator -/
def sepS (k : Nat) : ByteArray := if k % 5 = 0 then S0 else if k % 5 = 1 then S1 else if k % 5 = 2 then S2 else if k % 5 = 3 then S3 else S4

set_option maxHeartbeats 1000000 in
theorem sep19 (k : Nat) (w : World) (hk : k ≤ 1048576) :
    Calls Trym.prog 19 #[.int .i64 (k : Int)] w fun e w' => e = .returned (.string (sepS k)) ∧ w' = w := by
  have hc : k % 5 = 0 ∨ k % 5 = 1 ∨ k % 5 = 2 ∨ k % 5 = 3 ∨ k % 5 = 4 := by omega
  have ht : (k : Int).tmod 5 = ((k % 5 : Nat) : Int) := by rw [Int.tmod_eq_emod_of_nonneg (by omega)]; omega
  rcases hc with h | h | h | h | h
  all_goals
    have HS := hidden h
    rw [h] at ht
    clear h
    have ht' : (k : Int) % 5 = ((k % 5 : Nat) : Int) := by omega
    rw [HS.out] at ht'
    go_enter Trym.func19, Trym.ntmps19
    go_wp2
    go_ret
    exact ⟨by unfold sepS; rw [HS.out]; rfl, rfl⟩

/-! ### The letters' tests -/
def letB (c : Nat) : Bool := decide (65 ≤ c ∧ c ≤ 90) || decide (97 ≤ c ∧ c ≤ 122)
def upB (c : Nat) : Bool := decide (65 ≤ c ∧ c ≤ 90)

set_option maxHeartbeats 1000000 in
theorem let17 (c : Nat) (w : World) (hc : c < 256) :
    Calls Trym.prog 17 #[.int .u8 (c : Int)] w fun e w' => e = .returned (.bool (letB c)) ∧ w' = w := by
  have hk : c < 65 ∨ (65 ≤ c ∧ c ≤ 90) ∨ (90 < c ∧ c < 97) ∨ (97 ≤ c ∧ c ≤ 122) ∨ 122 < c := by omega
  rcases hk with h | h | h | h | h
  all_goals
    have HS := hidden h
    first
      | (have k1 : ¬ ((65 : Int) ≤ (c : Int)) := by omega
         have k2 : ¬ ((97 : Int) ≤ (c : Int)) := by omega
         have HV : Hid (letB c = false) := by unfold letB Hid; simp; omega
         clear h
         go_enter Trym.func17, Trym.ntmps17
         go_wp2
         go_ret
         exact ⟨by rw [HV.out]; rfl, rfl⟩)
      | (have k1 : ((65 : Int) ≤ (c : Int)) := by omega
         have k2 : ((c : Int) ≤ 90) := by omega
         have HV : Hid (letB c = true) := by unfold letB Hid; simp; omega
         clear h
         go_enter Trym.func17, Trym.ntmps17
         go_wp2
         go_ret
         exact ⟨by rw [HV.out]; rfl, rfl⟩)
      | (have k1 : ((65 : Int) ≤ (c : Int)) := by omega
         have k2 : ¬ ((c : Int) ≤ 90) := by omega
         have k3 : ¬ ((97 : Int) ≤ (c : Int)) := by omega
         have HV : Hid (letB c = false) := by unfold letB Hid; simp; omega
         clear h
         go_enter Trym.func17, Trym.ntmps17
         go_wp2
         go_ret
         exact ⟨by rw [HV.out]; rfl, rfl⟩)
      | (have k1 : ((65 : Int) ≤ (c : Int)) := by omega
         have k2 : ¬ ((c : Int) ≤ 90) := by omega
         have k3 : ((97 : Int) ≤ (c : Int)) := by omega
         have k4 : ((c : Int) ≤ 122) := by omega
         have HV : Hid (letB c = true) := by unfold letB Hid; simp; omega
         clear h
         go_enter Trym.func17, Trym.ntmps17
         go_wp2
         go_ret
         exact ⟨by rw [HV.out]; rfl, rfl⟩)
      | (have k1 : ((65 : Int) ≤ (c : Int)) := by omega
         have k2 : ¬ ((c : Int) ≤ 90) := by omega
         have k3 : ((97 : Int) ≤ (c : Int)) := by omega
         have k4 : ¬ ((c : Int) ≤ 122) := by omega
         have HV : Hid (letB c = false) := by unfold letB Hid; simp; omega
         clear h
         go_enter Trym.func17, Trym.ntmps17
         go_wp2
         go_ret
         exact ⟨by rw [HV.out]; rfl, rfl⟩)

end Go.Proofs.Qxb6604042aMods
