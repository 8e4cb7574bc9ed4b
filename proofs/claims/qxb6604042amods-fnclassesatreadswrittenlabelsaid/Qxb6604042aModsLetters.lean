/-
  THE WALK over b1LettersAre.
-/
import Derived.Test.Qxb6604042aModsClasses
namespace Go.Proofs.Qxb6604042aMods
open Go.RowKit

theorem below_drewN1 {B : Nat} {w w' : World} (h : Below B w w') (m : Nat) : Below B w (w'.drewN m) := ⟨h.os, h.tape, h.output, h.size, h.block⟩

set_option maxHeartbeats 1000000 in
theorem letters20 (a : Option Addr) (n c : Nat) (l : List UInt8) (arr : Array Value) (w : World) (hn : n ≤ 26) (h0 : 0 < n) (hl : l.length = n) (ha : a.isNone = false) (hr : SRow w a n (l.map one))
    (harr : ∀ j (h : j < l.length), arr[j]? = some (.int .u8 (l[j].toNat : Int))) :
    Calls Trym.prog 20 #[.slice a n c, .agg arr, .int .i64 (n : Int)] w fun e w' => e = .returned (.bool true) ∧ Below w.heap.size w w' := by
  have q1 := fun (w : World) (a : Option Addr) (n c : Nat) => Lib.run_eql_slice_nil (P := Trym.prog) w 27 9 a n c 0 0 Trym.underlying27
  have hn0 : ((n : Int) == 0) = false := by simp; omega
  obtain ⟨_, hr⟩ := hr
  obtain ⟨b, off, rfl, hc⟩ := hr.resolve_left (by omega)
  have Hc := hidden hc
  have Harr := hidden harr
  clear hc hr harr
  have hb : Below w.heap.size w (w.alloc (.cells arr 34)) := (Below.refl _ _).alloc (Nat.le_refl _) _
  have Hb := hidden hb
  clear hb
  go_enter Trym.func20, Trym.ntmps20
  go_wp2
  go_loopw [7] (fun kv wr => ∃ k m : Nat, k ≤ n ∧ kv = .int .i64 k ∧ wr = (w.alloc (.cells arr 34)).drewN m) (fun kv _ => n - (intOf kv).toNat)
  case atStart => exact ⟨0, 0, Nat.zero_le _, rfl, rfl⟩
  case round =>
    obtain ⟨k, m, hk, rfl, rfl⟩ := hrel
    by_cases hlt : k < n
    · have hkl : k < l.length := by omega
      have c1 : (w.alloc (.cells arr 34)).cell? ⟨b, off + k, none⟩ = some (.string (one l[k])) := by
        have := Hc.out k (by simpa using hkl)
        rw [List.getElem_map] at this
        exact cell_later Hb.out this
      have c2 : (w.alloc (.cells arr 34)).cell? ⟨w.heap.size, k, none⟩ = some (.int .u8 (l[k].toNat : Int)) := by
        rw [cell_of_row _ _ _ _ _ _ (heap_alloc_new w _)]; exact Harr.out k hkl
      have p1 : ((one l[k]).size : Int) = 1 := rfl
      have p2 : ∀ h : 0 < (one l[k]).size, ((one l[k])[0].toNat : Int) = (l[k].toNat : Int) := fun _ => rfl
      generalize l[k] = u at *
      generalize one u = p at *
      have p0 : 0 < p.size := by omega
      have p3 : (((p.size : Nat) : Int) != 1) = false := by rw [p1]; rfl
      have p4 : ((p[0].toNat : Int) != (u.toNat : Int)) = false := by rw [p2 p0]; simp
      have p5 : (0 : Int) < (p.size : Int) := by omega
      have i1 : (k : Int) < (n : Int) := by omega
      have i2 : (k : Int) < 26 := by omega
      clear p1 p2
      generalize w.alloc (.cells arr 34) = W at *
      go_wp2
      go_quiet (fail)
      go_wp2
      go_roundw
      case rel => exact ⟨k + 1, m + nq, by omega, by go_num, rfl⟩
      case measure => simp [intOf]; omega
    · go_wp2
      go_ret
      exact ⟨rfl, below_drewN1 Hb.out m⟩

end Go.Proofs.Qxb6604042aMods
