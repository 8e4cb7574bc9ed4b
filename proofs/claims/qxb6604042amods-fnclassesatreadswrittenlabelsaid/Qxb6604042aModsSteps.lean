/-
  STEPS of the walk over FnClassesAtReadsWrittenLabel (6).
-/
import Derived.Test.Qxb6604042aModsLaw6
namespace Go.Proofs.Qxb6604042aMods
open Go.RowKit

theorem mem_start {B : Nat} {w w2 : World} (hb : Below B w w2) (hs : B ≤ w2.heap.size) (oa sa : Array Value) : Mem B w ((w2.alloc (.cells oa 34)).alloc (.cells sa 35)) w2.heap.size oa sa := by
  have hb1 := (hb.alloc hs (.cells oa 34)).alloc (by rw [World.size_alloc]; omega) (.cells sa 35)
  refine ⟨hb1, by rw [World.size_alloc, World.size_alloc]; omega, hs, ?_, ?_⟩
  · rw [Below.heap_alloc _ _ _ (by rw [World.size_alloc]; omega)]
    exact heap_alloc_new w2 _
  · have := heap_alloc_new (w2.alloc (.cells oa 34)) (.cells sa 35)
    rw [World.size_alloc] at this
    exact this

def oz : Array Value := #[.int .u8 0, .int .u8 0, .int .u8 0, .int .u8 0, .int .u8 0, .int .u8 0, .int .u8 0, .int .u8 0, .int .u8 0, .int .u8 0, .int .u8 0, .int .u8 0, .int .u8 0, .int .u8 0, .int .u8 0, .int .u8 0, .int .u8 0, .int .u8 0, .int .u8 0, .int .u8 0, .int .u8 0, .int .u8 0, .int .u8 0, .int .u8 0, .int .u8 0, .int .u8 0]
def sz : Array Value := #[.bool false, .bool false, .bool false, .bool false, .bool false, .bool false, .bool false, .bool false, .bool false, .bool false, .bool false, .bool false, .bool false, .bool false, .bool false, .bool false, .bool false, .bool false, .bool false, .bool false, .bool false, .bool false, .bool false, .bool false, .bool false, .bool false]

theorem seen_start : Seen [] oz sz := by
  refine ⟨rfl, rfl, fun j h => absurd h (Nat.not_lt_zero _), fun c h1 h2 => ?_⟩
  have e : sz = Array.replicate 26 (.bool false) := rfl
  rw [e, Array.getElem?_replicate, if_pos (by omega)]
  simp

theorem lab_more (a b : ByteArray) (k : Nat) (T : List UInt8) (hT : tailB b.size k = T) : bl a ++ labTo b k ++ sepO k ++ [letU b k] ++ lei ++ T = bl a ++ labTo b (k + 1) := by
  simp [labTo, itemB, hT]

theorem lab_short (a b : ByteArray) (k : Nat) : (bl a ++ labTo b k ++ sepO k).length ≤ a.size + 19 * k + 3 := by
  have h1 := lab_len b k
  have h2 : (sepO k).length ≤ 3 := by
    unfold sepO
    split
    · simp
    · exact sepB_len k
  rw [List.length_append, List.length_append, bl_length]; omega

theorem lab_sep (a b : ByteArray) (k : Nat) (hk : 0 < k) : bl a ++ labTo b k ++ bl (sepS k) = bl a ++ labTo b k ++ sepO k := by
  unfold sepO; rw [if_neg (by omega)]; rfl

theorem letU_get (b : ByteArray) (k : Nat) (hk : k < b.size) : letU b k = b[k] := by
  unfold letU
  rw [List.getD, bl_get b k hk]; rfl

theorem frozen_row {w : World} {o t : Nat} {oa : Array Value} (h : w.heap[o]? = some (.cells oa t (0, 0))) (i : Nat) : w.frozen? ⟨o, i, none⟩ = false := by
  unfold World.frozen?
  simp [h]

theorem lab_pos (b : ByteArray) (h : 0 < b.size) : 0 < (labTo b b.size).length := by
  have e : labTo b b.size = labTo b (b.size - 1) ++ itemB b (b.size - 1) := by
    have : b.size = (b.size - 1) + 1 := by omega
    rw [this, labTo]; rfl
  rw [e, List.length_append, itemB]
  simp
  omega

theorem pre_of (S a : ByteArray) (Z : List UInt8) (hS : bl S = bl a ++ Z) {i : Nat} (h1 : i < S.size) (h2 : i < a.size) : S[i] = a[i] := by
  have e1 := bl_get S i h1
  rw [hS, List.getElem?_append_left (by rw [bl_length]; exact h2), bl_get a i h2] at e1
  exact (Option.some.inj e1).symm

theorem Trym.size34 : (Trym.prog.info? 34).map (·.size) = some 26 := by kernel_rfl

theorem wpList_load_held {P : Program} {ops : Array Oper} {rest : List Oper} {o : Oper} {a : Act} {w : World} {Q : Exit → Act → World → Prop} (ty : TypeId) (x : Operand) (ho : o.op = .load ty x) (hw : Region.wanted o (yielded ops a.tmps) = true)
    (g : Nat) (hx : a.eval x = .pointer (some ⟨g, 0, none⟩)) (t : TypeId) (cs : Array Value) (fr : Nat × Nat) (d : TypeDesc) (hg : w.heap[g]? = some (.cells cs t fr))
    (hu : P.underlying ty = some d) (hd : (match d with | .struct _ | .array _ _ => true | _ => false) = true) (hi : (P.info? ty).map (·.size) = some cs.size)
    (h : wpList P ops Q rest (a.put o.dst (.agg cs)) w) : wpList P ops Q (o :: rest) a w := by
  simp only [wpList, hw, if_true]
  exact .inl (wp_load_row ty x ho g hx t cs fr d hg hu hd hi h)

/-- The loop's state at item k. -/
def LState (w wr : World) (a b : ByteArray) (o : Nat) (v nv ev : Value) (k : Nat) : Prop :=
  ∃ oa sa, nv = .int .i64 ((du (letU b) (min k 26)).length : Nat) ∧ (0 < k → ev = .int .i64 (enP a.size b (min k 26 - 1) : Nat)) ∧ Buf w.heap.size wr v (bl a ++ labTo b k) ∧ Mem w.heap.size w wr o oa sa ∧ Seen (du (letU b) (min k 26)) oa sa

end Go.Proofs.Qxb6604042aMods
