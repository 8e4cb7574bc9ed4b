/-
  THE WALK over addScript.
-/
import Derived.Test.Qxb6602788aModsAddZ
import Derived.Deep.RegionHeld3
namespace Go.Proofs.Qxb6602788aMods
open Go.RowKit

/-- What a slice of sums is handed back as. -/
def GivesSums (w : World) (ps : List (Int × Nat)) (idx : Int) (tok : Nat) (e : Ending) (w' : World) : Prop :=
  ∃ a' n' c' ps', e = .returned (.slice a' n' c') ∧ AddStep ps idx tok ps' ∧ ARow w' a' n' ps' ∧ Below w.heap.size w w'

theorem zzadd29 (a : Option Addr) (n c : Nat) (ps : List (Int × Nat)) (idx : Int) (tok : Nat) (w : World) (hn : n ≤ 900000) (hr : ARow w a n ps) (h0 : a = none → n = 0 ∧ c = 0) :
    Calls Trym.prog 29 #[.slice a n c, .int .i64 idx, .float .f64 tok] w (GivesSums w ps idx tok) := by
  cases a with
  | none =>
    obtain ⟨rfl, rfl⟩ := h0 rfl
    have e : ps = [] := List.eq_nil_of_length_eq_zero hr.1
    subst e
    exact zzadd29_nil idx tok w
  | some x => exact zzadd29_some x n c ps idx tok w hn hr

def Adds : List (Int × Nat) → List (Int × Nat) → List (Int × Nat) → Prop
  | ps, [], r => r = ps
  | ps, x :: xs, r => ∃ s, AddStep ps x.1 x.2 s ∧ Adds s xs r

theorem adds_snoc (ps l : List (Int × Nat)) (x : Int × Nat) (r : List (Int × Nat)) : Adds ps (l ++ [x]) r ↔ ∃ s, Adds ps l s ∧ AddStep s x.1 x.2 r := by
  induction l generalizing ps with
  | nil => simp [Adds]
  | cons y l ih =>
    simp only [List.cons_append, Adds, ih]
    constructor
    · rintro ⟨s, h1, t, h2, h3⟩; exact ⟨t, ⟨s, h1, h2⟩, h3⟩
    · rintro ⟨t, ⟨s, h1, h2⟩, h3⟩; exact ⟨s, h1, t, h2, h3⟩

theorem addStep_le {ps ps' : List (Int × Nat)} {i : Int} {t : Nat} (h : AddStep ps i t ps') : 0 < ps'.length ∧ ps'.length ≤ ps.length + 1 := by
  obtain ⟨k, h1, h2⟩ := addStep_pos h
  omega

theorem arow_some {w : World} {a : Option Addr} {n c : Nat} {ps : List (Int × Nat)} (h : ARow w a n ps) (hp : 0 < ps.length) : a = none → n = 0 ∧ c = 0 := by
  intro e
  rcases h.2 with h0 | ⟨b, off, ha, _⟩
  · have := h.1; omega
  · rw [e] at ha; cases ha

/-- What addScript leaves. -/
def ScriptPost (w : World) (sc : List (Int × Nat)) (e : Ending) (w' : World) : Prop :=
  ∃ a' n' c' ps', e = .returned (.slice a' n' c') ∧ Adds [] sc ps' ∧ ARow w' a' n' ps' ∧ n' ≤ sc.length ∧ Below w.heap.size w w'

set_option maxHeartbeats 2000000 in
theorem script21 (a : Option Addr) (n c : Nat) (sc : List (Int × Nat)) (w : World) (hn : n ≤ 4096) (hr : ARow w a n sc) :
    Calls Trym.prog 21 #[.slice a n c] w (ScriptPost w sc) := by
  obtain ⟨hl, hr⟩ := hr
  go_enter Trym.func21, Trym.ntmps21
  go_wp2
  go_loopw [3, 4] (fun cur i wr => ∃ (k : Nat) (a' : Option Addr) (n' c' : Nat) (ps : List (Int × Nat)), k ≤ n ∧ i = .int .i64 k ∧ cur = .slice a' n' c' ∧ Adds [] (sc.take k) ps ∧ ARow wr a' n' ps ∧ (a' = none → n' = 0 ∧ c' = 0) ∧ n' ≤ k ∧ Below w.heap.size w wr) (fun _ i _ => n - (intOf i).toNat)
  case atStart => exact ⟨0, none, 0, 0, [], Nat.zero_le _, rfl, rfl, rfl, ⟨rfl, .inl rfl⟩, fun _ => ⟨rfl, rfl⟩, Nat.le_refl _, Below.refl _ _⟩
  case round =>
    obtain ⟨k, a', n', c', ps, hk, rfl, rfl, hadds, hrow, hnone, hn', hb⟩ := hrel
    by_cases hlt : k < n
    · have hkl : k < sc.length := by omega
      obtain ⟨b, off, rfl, hc⟩ := hr.resolve_left (by omega)
      have r0 : wr.cell? ⟨b, off + k * 2, none⟩ = some (.int .i64 sc[k].1) := cell_later hb (hc k hkl).1
      have r1 : wr.cell? ⟨b, off + k * 2 + 1, none⟩ = some (.float .f64 sc[k].2) := cell_later hb (hc k hkl).2
      have hts : sc.take (k + 1) = sc.take k ++ [sc[k]] := List.take_succ_eq_append_getElem hkl
      have HT : Hid _ := hts
      have HA : Hid _ := hadds
      have HR : Hid _ := hrow
      have HN : Hid _ := hnone
      have HB : Hid _ := hb
      have hk1 : (k : Int) < (n : Int) := by omega
      have hsz := hb.size
      clear hts hadds hrow hnone hb hc
      generalize sc[k] = q at *
      obtain ⟨qi, qt⟩ := q
      go_wp2
      go_region_held3 (fun w' => w'.cell? ⟨b, off + k * 2, none⟩ = some (.int .i64 qi) ∧ w'.cell? ⟨b, off + k * 2 + 1, none⟩ = some (.float .f64 qt)) (first | go_keep | (exact ⟨cell_later (w := wr.drew) hbx r0, cell_later (w := wr.drew) hbx r1⟩))
        (first | (go_at_call 29; refine (zzadd29 a' n' c' ps qi qt wr.drew (by omega) (show ARow wr.drew a' n' ps from HR.out) HN.out).mono ?_; rintro e w1 ⟨a2, n2, c2, ps2, rfl, hstep, hrow2, hbx⟩))
      have hle := addStep_le hstep
      have hn2 : n2 ≤ k + 1 := by have := hrow2.1; have := HR.out.1; omega
      have hnn := arow_some (c := c2) hrow2 hle.1
      have hb2 : Below w.heap.size w w1 := (HB.out.drew).trans (hbx.mono hsz)
      have HS : Hid _ := hstep
      have HR2 : Hid _ := hrow2
      have HN2 : Hid _ := hnn
      have HB2 : Hid _ := hb2
      clear hstep hrow2 hnn hb2 hbx hle
      go_wp2
      go_roundw
      case rel => exact ⟨k + 1, a2, n2, c2, ps2, by omega, by go_num, rfl, by rw [HT.out, adds_snoc]; exact ⟨ps, HA.out, HS.out⟩, HR2.out, HN2.out, hn2, HB2.out⟩
      case measure => simp [intOf]; omega
    · have e : sc.take k = sc := List.take_of_length_le (by omega)
      rw [e] at hadds
      have HF : Hid (ScriptPost w sc (.returned (.slice a' n' c')) wr) := ⟨a', n', c', ps, rfl, hadds, hrow, by omega, hb⟩
      clear hadds hrow hnone hb e hr
      go_wp2
      go_ret
      exact HF.out

end Go.Proofs.Qxb6602788aMods
