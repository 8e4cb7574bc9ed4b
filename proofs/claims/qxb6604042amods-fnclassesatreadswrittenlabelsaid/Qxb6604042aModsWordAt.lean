/-
  THE WALKS over wordAt, slices.Index, slices.Contains, isUpper, isLetter, zzBytes_FnClassesAtReadsWrittenLabel.
-/
import Derived.Test.Qxb6604042aModsWords
namespace Go.Proofs.Qxb6604042aMods
open Go.RowKit

/-- A row of strings in memory. -/
def SRow (w : World) (a : Option Addr) (n : Nat) (ws : List ByteArray) : Prop :=
  ws.length = n ∧ (n = 0 ∨ ∃ b off, a = some ⟨b, off, none⟩ ∧ ∀ i (h : i < ws.length), w.cell? ⟨b, off + i, none⟩ = some (.string ws[i]))

def wordF (x : ByteArray) : List ByteArray → Option Nat
  | [] => none
  | p :: ps => if hp x p then some p.size else wordF x ps

def WordPost (x : ByteArray) (i : Nat) (ws : List ByteArray) (w : World) (e : Ending) (w' : World) : Prop :=
  e = .returned (.tuple #[.int .i64 ((i + (wordF x ws).getD 0 : Nat) : Int), .bool (wordF x ws).isSome]) ∧ w' = w

set_option maxHeartbeats 1000000 in
theorem word35 (s : ByteArray) (i : Nat) (a : Option Addr) (n c : Nat) (ws : List ByteArray) (w : World) (hs : s.size ≤ 4194304) (hi : i ≤ s.size) (hn : n ≤ 100) (hr : SRow w a n ws) (hw : ∀ p ∈ ws, p.size ≤ 100) :
    Calls Trym.prog 35 #[.string s, .int .i64 (i : Int), .slice a n c] w (WordPost (s.extract i s.size) i ws w) := by
  obtain ⟨hl, hr⟩ := hr
  generalize hx : s.extract i s.size = x
  have HX := hidden hx
  clear hx
  have hi1 : (i : Int) ≤ (s.size : Int) := by omega
  go_enter Trym.func35, Trym.ntmps35
  go_wp2
  go_loop [9, 12] (fun _ kv => ∃ k : Nat, k ≤ n ∧ kv = .int .i64 k ∧ wordF x (ws.drop k) = wordF x ws) (fun _ kv => n - (intOf kv).toNat)
  case atStart => exact ⟨0, Nat.zero_le _, rfl, rfl⟩
  case round =>
    obtain ⟨k, hk, rfl, hd⟩ := hrel
    by_cases hlt : k < n
    · have hkl : k < ws.length := by omega
      obtain ⟨b, off, rfl, hc⟩ := hr.resolve_left (by omega)
      have hck := hc k hkl
      have hps := hw ws[k] (List.getElem_mem hkl)
      rw [List.drop_eq_getElem_cons hkl] at hd
      simp only [wordF] at hd
      have hi2 : (k : Int) < (n : Int) := by omega
      clear hc
      generalize ws[k] = p at *
      cases hh : hp x p with
      | true =>
        rw [hh, if_pos rfl] at hd
        have HD := hidden hd
        have HH := hidden hh
        clear hd hh
        go_wp2_with fail
        rw [HX.out]
        refine (prefix33 _ _ _).mono ?_
        rintro e w' ⟨rfl, hw'⟩
        obtain rfl := hw'.symm
        clear hw'
        rw [HH.out]
        go_wp2
        go_ret2
        refine ⟨?_, rfl⟩
        rw [← HD.out]; rfl
      | false =>
        rw [hh, if_neg (by simp)] at hd
        have HD := hidden hd
        have HH := hidden hh
        clear hd hh
        go_wp2_with fail
        rw [HX.out]
        refine (prefix33 _ _ _).mono ?_
        rintro e w' ⟨rfl, hw'⟩
        obtain rfl := hw'.symm
        clear hw'
        rw [HH.out]
        go_wp2
        go_round
        case rel => exact ⟨k + 1, by omega, by go_num, HD.out⟩
        case measure => simp [intOf]; omega
    · have hd0 : ws.drop k = [] := List.drop_eq_nil_of_le (by omega)
      rw [hd0] at hd
      have HD := hidden hd
      clear hd hd0
      go_wp2
      go_ret2
      refine ⟨?_, rfl⟩
      rw [← HD.out]; rfl

/-! ### slices.Index, slices.Contains -/
def memB (v : ByteArray) (l : List ByteArray) : Bool := l.any fun c => v.toList == c.toList

def IndexPost (b : Bool) (w : World) (e : Ending) (w' : World) : Prop := ∃ n : Int, e = .returned (.int .i64 n) ∧ (0 ≤ n ↔ b = true) ∧ w' = w

set_option maxHeartbeats 1000000 in
theorem index39 (a : Option Addr) (n c : Nat) (l : List ByteArray) (v : ByteArray) (w : World) (hn : n ≤ 100) (hr : SRow w a n l) :
    Calls Trym.prog 39 #[.slice a n c, .string v] w (IndexPost (memB v l) w) := by
  obtain ⟨hl, hr⟩ := hr
  go_enter Trym.func39, Trym.ntmps39
  go_wp2
  go_loop [5, 8] (fun _ kv => ∃ k : Nat, k ≤ n ∧ kv = .int .i64 k ∧ memB v (l.drop k) = memB v l) (fun _ kv => n - (intOf kv).toNat)
  case atStart => exact ⟨0, Nat.zero_le _, rfl, rfl⟩
  case round =>
    obtain ⟨k, hk, rfl, hd⟩ := hrel
    by_cases hlt : k < n
    · have hkl : k < l.length := by omega
      obtain ⟨b, off, rfl, hc⟩ := hr.resolve_left (by omega)
      have hck := hc k hkl
      rw [List.drop_eq_getElem_cons hkl] at hd
      simp only [memB, List.any_cons] at hd
      have hi2 : (k : Int) < (n : Int) := by omega
      clear hc
      generalize l[k] = q at *
      cases hh : v.toList == q.toList with
      | true =>
        rw [hh, Bool.true_or] at hd
        have HD := hidden hd
        clear hd
        go_wp2
        go_ret
        refine ⟨k, rfl, ⟨fun _ => HD.out.symm, fun _ => by omega⟩, rfl⟩
      | false =>
        rw [hh, Bool.false_or] at hd
        have HD := hidden hd
        clear hd
        go_wp2
        go_round
        case rel => exact ⟨k + 1, by omega, by go_num, HD.out⟩
        case measure => simp [intOf]; omega
    · have hd0 : l.drop k = [] := List.drop_eq_nil_of_le (by omega)
      rw [hd0] at hd
      have HD := hidden hd
      clear hd hd0
      go_wp2
      go_ret
      refine ⟨-1, rfl, ⟨fun h => by omega, fun h => by rw [← HD.out] at h; cases h⟩, rfl⟩

theorem contains34 (a : Option Addr) (n c : Nat) (l : List ByteArray) (v : ByteArray) (w : World) (hn : n ≤ 100) (hr : SRow w a n l) :
    Calls Trym.prog 34 #[.slice a n c, .string v] w fun e w' => e = .returned (.bool (memB v l)) ∧ w' = w := by
  have HR := hidden hr
  clear hr
  go_enter Trym.func34, Trym.ntmps34
  go_wp2_with fail
  refine (index39 _ _ _ l _ _ hn HR.out).mono ?_
  rintro e w' ⟨q, rfl, hq, hw⟩
  obtain rfl := hw.symm
  clear hw
  cases hb : memB v l with
  | true =>
    have h0 : (0 : Int) ≤ q := hq.2 hb
    have HB := hidden hb
    clear hq hb
    go_wp2
    go_ret
    exact ⟨by rw [HB.out]; simp, rfl⟩
  | false =>
    have h0 : ¬ ((0 : Int) ≤ q) := fun h => by rw [hq.1 h] at hb; cases hb
    have HB := hidden hb
    clear hq hb
    go_wp2
    go_ret
    exact ⟨by rw [HB.out]; simp; omega, rfl⟩

/-! ### isUpper, isLetter -/
set_option maxHeartbeats 400000 in
theorem up32 (c : Nat) (w : World) (h : 65 ≤ c ∧ c ≤ 90) :
    Calls Trym.prog 32 #[.int .u8 (c : Int)] w fun e w' => e = .returned (.bool true) ∧ w' = w := by
  have k1 : ((65 : Int) ≤ (c : Int)) := by omega
  have k2 : ((c : Int) ≤ 90) := by omega
  go_enter Trym.func32, Trym.ntmps32
  go_wp2
  go_ret
  exact ⟨by simp, rfl⟩

set_option maxHeartbeats 400000 in
theorem notlet31 (c : Nat) (w : World) (h : letB c = false) :
    Calls Trym.prog 31 #[.int .u8 (c : Int)] w fun e w' => e = .returned (.bool false) ∧ w' = w := by
  have hk : c < 65 ∨ (90 < c ∧ c < 97) ∨ 122 < c := by
    unfold letB at h
    simp at h
    omega
  clear h
  rcases hk with h | h | h
  · have k1 : ¬ ((65 : Int) ≤ (c : Int)) := by omega
    have k2 : ¬ ((97 : Int) ≤ (c : Int)) := by omega
    clear h
    go_enter Trym.func31, Trym.ntmps31
    go_wp2
    go_ret
    exact ⟨by simp, rfl⟩
  · have k1 : ((65 : Int) ≤ (c : Int)) := by omega
    have k2 : ¬ ((c : Int) ≤ 90) := by omega
    have k3 : ¬ ((97 : Int) ≤ (c : Int)) := by omega
    clear h
    go_enter Trym.func31, Trym.ntmps31
    go_wp2
    go_ret
    exact ⟨by simp, rfl⟩
  · have k1 : ((65 : Int) ≤ (c : Int)) := by omega
    have k2 : ¬ ((c : Int) ≤ 90) := by omega
    have k3 : ((97 : Int) ≤ (c : Int)) := by omega
    have k4 : ¬ ((c : Int) ≤ 122) := by omega
    clear h
    go_enter Trym.func31, Trym.ntmps31
    go_wp2
    go_ret
    exact ⟨by simp, rfl⟩

end Go.Proofs.Qxb6604042aMods
