/-
  A SLICE OF DOUBLES THAT CAME IN, OPENED.
-/
import Derived.Test.Qxb6602788aModsSum
import Derived.Deep.Slices
namespace Go.Proofs.Qxb6602788aMods
open Go.ChangeShapes Go.WideShapes Go.Deep

theorem trod_float {H : Type} {enc : TypeId × Value → H} {P : Program} {w : World} {base : Nat} {spare : Nat → Bool} {held : Bool} {fuel : Nat} {t : TypeId} {k : FloatKind} {cs : List Value} {x : DataW H × List MemPlace}
    (ht : P.underlying t = some (.float k)) (h : DataW.trod enc P w base spare held fuel t cs = some x) : ∃ b, cs = [.float k b] ∧ (Lit.float k b).wf = true := by
  cases fuel with
  | zero => simp [DataW.trod] at h
  | succ n =>
    unfold DataW.trod at h
    rw [ht] at h
    split at h <;> simp_all

theorem wf_lt {b : Nat} (h : (Lit.float .f64 b).wf = true) : b < 2 ^ 64 := by
  simpa [Lit.wf] using h

theorem open_floats {H : Type} {enc : TypeId × Value → H} {w : World} {fuel : Nat} {a : Option Addr} {n c : Nat} {x : DataW H × List MemPlace}
    (h : DataW.trod enc Trym.prog w 0 (fun _ => true) true fuel 25 [.slice a n c] = some x) :
    (a = none → n = 0 ∧ c = 0) ∧ n ≤ maxLen ∧ ∃ fs : List Nat, FRow w a n fs ∧ ∀ x ∈ fs, x < 2 ^ 64 := by
  rcases open_slice1 Trym.underlying25 (by kernel_rfl) h with ⟨h1, _⟩ | ⟨ad, len, cap, m, fl, V, D, Pl, h1, _, hl, hm, hmm, _, hV⟩
  · simp at h1
    obtain ⟨rfl, rfl, rfl⟩ := h1
    exact ⟨fun _ => ⟨rfl, rfl⟩, Nat.zero_le _, [], ⟨rfl, .inl rfl⟩, fun x hx => by cases hx⟩
  · simp at h1
    obtain ⟨rfl, rfl, rfl⟩ := h1
    simp only [if_true] at hmm
    subst hmm
    refine ⟨(fun h => by cases h), by omega, ?_⟩
    obtain ⟨F, hF⟩ := choose_lt (n := n) (p := fun i b => w.cell? (ad.add i) = some (.float .f64 b) ∧ b < 2 ^ 64) (fun i hi => by
      obtain ⟨h2, h3⟩ := hV i (by omega)
      obtain ⟨b, hb, hw⟩ := trod_float Trym.underlying29 h3
      simp at hb
      exact ⟨b, by rw [h2, hb], wf_lt hw⟩)
    refine ⟨(List.range n).map F, ⟨by simp, ?_⟩, ?_⟩
    · by_cases h0 : n = 0
      · exact .inl h0
      · right
        obtain ⟨b, off, spot⟩ := ad
        have hspot : spot = none := by simpa [Addr.add] using World.cell?_spot (hF 0 (by omega)).1
        subst hspot
        refine ⟨b, off, rfl, fun i hi => ?_⟩
        have := (hF i hi).1
        rw [add_plain] at this
        rw [this]
        simp [List.getD, hi]
    · intro x hx
      obtain ⟨i, hi, rfl⟩ := List.mem_map.1 hx
      exact (hF i (by simpa using hi)).2

end Go.Proofs.Qxb6602788aMods
