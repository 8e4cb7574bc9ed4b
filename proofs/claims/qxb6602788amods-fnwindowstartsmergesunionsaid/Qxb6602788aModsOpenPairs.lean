/-
  A SLICE OF Admission's (type 36) OR OF Window's (type 22) THAT CAME IN, OPENED.
-/
import Derived.Test.Qxb6602788aModsOpen
import Derived.Test.Qxb6602788aModsPairs
import Derived.Deep.SlicePairs
namespace Go.Proofs.Qxb6602788aMods
open Go.ChangeShapes Go.WideShapes Go.Deep

/-- A Window: its start and its tokens. -/
def cs (p : Nat × Int) : Value := .float .f64 p.1
def ca (p : Nat × Int) : Value := .int .i64 p.2
abbrev WRow := PRow cs ca

theorem row_of_fn {α : Type} (f g : α → Value) {w : World} {ad : Addr} {n : Nat} (F : Nat → α) (hF : ∀ i, i < n → w.cell? (ad.add (i * 2)) = some (f (F i)) ∧ w.cell? (ad.add (i * 2 + 1)) = some (g (F i))) : PRow f g w (some ad) n ((List.range n).map F) := by
  refine ⟨by simp, ?_⟩
  by_cases h0 : n = 0
  · exact .inl h0
  · right
    obtain ⟨b, off, spot⟩ := ad
    have hspot : spot = none := by simpa [Addr.add] using World.cell?_spot (hF 0 (by omega)).1
    subst hspot
    refine ⟨b, off, rfl, fun i hi => ?_⟩
    have hin : i < n := by simpa using hi
    have := hF i hin
    rw [add_plain, add_plain] at this
    simp only [List.getElem_map, List.getElem_range]
    rw [Nat.add_assoc]
    exact this

theorem open_adms {H : Type} {enc : TypeId × Value → H} {w : World} {fuel : Nat} {a : Option Addr} {n c : Nat} {x : DataW H × List MemPlace}
    (h : DataW.trod enc Trym.prog w 0 (fun _ => true) true fuel 36 [.slice a n c] = some x) :
    (a = none → n = 0 ∧ c = 0) ∧ n ≤ maxLen ∧ ∃ ps : List (Int × Nat), ARow w a n ps ∧ ∀ p ∈ ps, p.2 < 2 ^ 64 := by
  rcases open_slice_pairs Trym.underlying36 Trym.underlying41 (by kernel_rfl) rfl rfl (by kernel_rfl) (by kernel_rfl) h with ⟨h1, _⟩ | ⟨ad, len, cap, m, fl, V0, V1, D0, D1, P0, P1, h1, _, hl, hm, hmm, _, hV⟩
  · simp at h1
    obtain ⟨rfl, rfl, rfl⟩ := h1
    exact ⟨fun _ => ⟨rfl, rfl⟩, Nat.zero_le _, [], ⟨rfl, .inl rfl⟩, fun x hx => by cases hx⟩
  · simp at h1
    obtain ⟨rfl, rfl, rfl⟩ := h1
    simp only [if_true] at hmm
    subst hmm
    refine ⟨(fun h => by cases h), by omega, ?_⟩
    obtain ⟨F, hF⟩ := choose_lt (n := n) (p := fun i (q : Int × Nat) => (w.cell? (ad.add (i * 2)) = some (ci q) ∧ w.cell? (ad.add (i * 2 + 1)) = some (ct q)) ∧ q.2 < 2 ^ 64) (fun i hi => by
      obtain ⟨c0, c1, t0, t1⟩ := hV i (by omega)
      obtain ⟨z, hz, _⟩ := DataW.trod_int Trym.underlying2 t0
      obtain ⟨b, hb, hw⟩ := trod_float Trym.underlying29 t1
      simp at hz hb
      exact ⟨(z, b), ⟨by rw [c0, hz]; rfl, by rw [c1, hb]; rfl⟩, wf_lt hw⟩)
    refine ⟨(List.range n).map F, row_of_fn ci ct F (fun i hi => (hF i hi).1), ?_⟩
    intro x hx
    obtain ⟨i, hi, rfl⟩ := List.mem_map.1 hx
    exact (hF i (by simpa using hi)).2

theorem open_wins {H : Type} {enc : TypeId × Value → H} {w : World} {fuel : Nat} {a : Option Addr} {n c : Nat} {x : DataW H × List MemPlace}
    (h : DataW.trod enc Trym.prog w 0 (fun _ => true) true fuel 22 [.slice a n c] = some x) :
    (a = none → n = 0 ∧ c = 0) ∧ n ≤ maxLen ∧ ∃ ps : List (Nat × Int), WRow w a n ps ∧ ∀ p ∈ ps, p.1 < 2 ^ 64 := by
  rcases open_slice_pairs Trym.underlying22 Trym.underlying34 (by kernel_rfl) rfl rfl (by kernel_rfl) (by kernel_rfl) h with ⟨h1, _⟩ | ⟨ad, len, cap, m, fl, V0, V1, D0, D1, P0, P1, h1, _, hl, hm, hmm, _, hV⟩
  · simp at h1
    obtain ⟨rfl, rfl, rfl⟩ := h1
    exact ⟨fun _ => ⟨rfl, rfl⟩, Nat.zero_le _, [], ⟨rfl, .inl rfl⟩, fun x hx => by cases hx⟩
  · simp at h1
    obtain ⟨rfl, rfl, rfl⟩ := h1
    simp only [if_true] at hmm
    subst hmm
    refine ⟨(fun h => by cases h), by omega, ?_⟩
    obtain ⟨F, hF⟩ := choose_lt (n := n) (p := fun i (q : Nat × Int) => (w.cell? (ad.add (i * 2)) = some (cs q) ∧ w.cell? (ad.add (i * 2 + 1)) = some (ca q)) ∧ q.1 < 2 ^ 64) (fun i hi => by
      obtain ⟨c0, c1, t0, t1⟩ := hV i (by omega)
      obtain ⟨z, hz, _⟩ := DataW.trod_int Trym.underlying2 t1
      obtain ⟨b, hb, hw⟩ := trod_float Trym.underlying29 t0
      simp at hz hb
      exact ⟨(b, z), ⟨by rw [c0, hb]; rfl, by rw [c1, hz]; rfl⟩, wf_lt hw⟩)
    refine ⟨(List.range n).map F, row_of_fn cs ca F (fun i hi => (hF i hi).1), ?_⟩
    intro x hx
    obtain ⟨i, hi, rfl⟩ := List.mem_map.1 hx
    exact (hF i (by simpa using hi)).2

end Go.Proofs.Qxb6602788aMods
