/-
  THE LAW's OWN MEMORY: the buffer's row, the two arrays.
-/
import Derived.Test.Qxb6604042aModsLetters
import Derived.Test.Qxb6604042aModsWritten
import Derived.Lib.AppendStr
import Derived.Laws.BytesString
namespace Go.Proofs.Qxb6604042aMods
open Go.RowKit

def bv (b : UInt8) : Value := .int .u8 (b.toNat : Int)

theorem str_cells (s : ByteArray) : Lib.strCells s = (bl s).map bv := rfl

theorem foldl_push (l : List UInt8) : ∀ s : ByteArray, (l.map fun b => ((b.toNat : Nat) : Int)).foldl (fun r n => r.push (UInt8.ofNat n.toNat)) s = ⟨s.data ++ l.toArray⟩ := by
  induction l with
  | nil => intro s; simp
  | cons b l ih =>
    intro s
    rw [List.map_cons, List.foldl_cons, ih]
    apply ByteArray.ext
    apply Array.ext'
    simp [ByteArray.push]

/-- The bytes of the buffer. -/
def Buf (B : Nat) (wr : World) (v : Value) (l : List UInt8) : Prop := wr.ownsRow B 5 1 v l.length (l.map bv)

theorem Buf.slice {B : Nat} {wr : World} {v : Value} {l : List UInt8} (h : Buf B wr v l) : ∃ a c, v = .slice a l.length c := by
  unfold Buf at h
  rcases h.2 with ⟨rfl, h0⟩ | ⟨g, cap, cur, rfl, r⟩
  · exact ⟨none, 0, by rw [h0]⟩
  · exact ⟨_, cap, rfl⟩

theorem Buf.text {B : Nat} {wr : World} {v : Value} {l : List UInt8} (h : Buf B wr v l) (h0 : 0 < l.length) :
    (convert 33 9 v).run Trym.prog wr = .ok (.string ⟨l.toArray⟩) wr := by
  unfold Buf at h
  rcases h.2 with ⟨_, h1⟩ | ⟨g, cap, cur, rfl, r⟩
  · omega
  · rw [run_convert_bytes_string wr 33 9 5 _ _ _ Trym.underlying33 Trym.underlying5 Trym.underlying9]
    have hl := run_loadCells_list (P := Trym.prog) wr ⟨g, 0, none⟩ (l.map bv) (h.cells (g := g) rfl)
    rw [List.length_map] at hl
    have e : (l.map bv) = (l.map fun b => ((b.toNat : Nat) : Int)).map (Value.int .u8) := by simp [bv]
    rw [e] at hl
    rw [run_bytesToString wr ⟨g, 0, none⟩ l.length cap _ hl, foldl_push]
    have e2 : ByteArray.empty.data ++ l.toArray = l.toArray := by simp [ByteArray.empty, ByteArray.emptyWithCapacity]; rfl
    rw [e2]

/-- The world of the law's loop. -/
structure Mem (B : Nat) (w wr : World) (o : Nat) (oa sa : Array Value) : Prop where
  bel : Below B w wr
  base : B ≤ wr.heap.size
  low : B ≤ o
  ord : wr.heap[o]? = some (.cells oa 34 (0, 0))
  see : wr.heap[o + 1]? = some (.cells sa 35 (0, 0))

theorem some_lt {α : Type} {a : Array α} {i : Nat} {x : α} (h : a[i]? = some x) : i < a.size := by
  rw [Array.getElem?_eq_some_iff] at h
  exact h.1

theorem Buf.apart {B : Nat} {wr : World} {v : Value} {l : List UInt8} (h : Buf B wr v l) {o t : Nat} {oa : Array Value} (ho : wr.heap[o]? = some (.cells oa t (0, 0))) (ht : t ≠ 5) : some o ≠ v.ownBlock := by
  unfold Buf at h
  rcases h.2 with ⟨rfl, _⟩ | ⟨g, cap, cur, rfl, _, hg, _⟩
  · simp [Value.ownBlock]
  · intro e
    simp only [Value.ownBlock, Option.some.injEq] at e
    subst e
    rw [ho] at hg
    simp at hg
    exact ht hg.2

theorem Mem.grown {B : Nat} {w wr w' : World} {o : Nat} {oa sa : Array Value} {v : Value} {l : List UInt8} (h : Mem B w wr o oa sa) (hb : Buf B wr v l) (hg : wr.grownBy w' v.ownBlock) : Mem B w w' o oa sa := by
  refine ⟨h.bel.grown hg h.base (fun q hq => (World.ownsRow.lt hb q hq).1), Nat.le_trans h.base hg.size, h.low, ?_, ?_⟩
  · rw [hg.block o (some_lt h.ord) (hb.apart h.ord (by decide))]; exact h.ord
  · rw [hg.block (o + 1) (some_lt h.see) (hb.apart h.see (by decide))]; exact h.see

theorem Buf.put {B : Nat} {wr : World} {v : Value} {l : List UInt8} (h : Buf B wr v l) {o t i : Nat} {oa : Array Value} (ho : wr.heap[o]? = some (.cells oa t (0, 0))) (ht : t ≠ 5) (u : Value) : Buf B (wr.setCell ⟨o, i, none⟩ u) v l := by
  have ha := h.apart ho ht
  unfold Buf at h ⊢
  obtain ⟨h1, h2⟩ := h
  refine ⟨h1, ?_⟩
  rcases h2 with h2 | ⟨g, cap, cur, hv, hg, hh, r⟩
  · exact Or.inl h2
  · refine Or.inr ⟨g, cap, cur, hv, hg, ?_, r⟩
    subst hv
    simp only [Value.ownBlock] at ha
    rw [Below.heap_setCell _ _ _ _ (fun e => ha (by rw [e]))]
    exact hh

theorem Mem.put_seen {B : Nat} {w wr : World} {o : Nat} {oa sa : Array Value} (h : Mem B w wr o oa sa) (i : Nat) (u : Value) : Mem B w (wr.setCell ⟨o + 1, i, none⟩ u) o oa (sa.setIfInBounds i u) :=
  ⟨h.bel.setCell (by have := h.low; simp; omega) u, by have := h.base; simpa [World.setCell] using this, h.low, by rw [Below.heap_setCell _ _ _ _ (by simp)]; exact h.ord, Go.heap_setCell_same _ _ _ _ _ _ h.see⟩

theorem Mem.put_order {B : Nat} {w wr : World} {o : Nat} {oa sa : Array Value} (h : Mem B w wr o oa sa) (i : Nat) (u : Value) : Mem B w (wr.setCell ⟨o, i, none⟩ u) o (oa.setIfInBounds i u) sa :=
  ⟨h.bel.setCell (by have := h.low; simpa using this) u, by have := h.base; simpa [World.setCell] using this, h.low, Go.heap_setCell_same _ _ _ _ _ _ h.ord, by rw [Below.heap_setCell _ _ _ _ (by simp)]; exact h.see⟩

/-- What the two arrays say. -/
structure Seen (d : List UInt8) (oa sa : Array Value) : Prop where
  on : oa.size = 26
  sn : sa.size = 26
  ord : ∀ j (h : j < d.length), oa[j]? = some (.int .u8 (d[j].toNat : Int))
  see : ∀ c : UInt8, 65 ≤ c.toNat → c.toNat ≤ 90 → sa[c.toNat - 65]? = some (.bool (decide (c ∈ d)))

theorem Seen.add {d : List UInt8} {oa sa : Array Value} (h : Seen d oa sa) (c : UInt8) (h65 : 65 ≤ c.toNat) (h90 : c.toNat ≤ 90) (hd : d.length < 26) :
    Seen (d ++ [c]) (oa.setIfInBounds d.length (.int .u8 (c.toNat : Int))) (sa.setIfInBounds (c.toNat - 65) (.bool true)) := by
  refine ⟨by simp [h.on], by simp [h.sn], ?_, ?_⟩
  · intro j hj
    rw [Array.getElem?_setIfInBounds]
    by_cases e : d.length = j
    · subst e
      rw [if_pos rfl, if_pos (by rw [h.on]; exact hd)]
      simp
    · rw [if_neg e]
      have hj' : j < d.length := by simp at hj; omega
      rw [h.ord j hj', List.getElem_append_left hj']
  · intro x hx1 hx2
    rw [Array.getElem?_setIfInBounds]
    by_cases e : c.toNat - 65 = x.toNat - 65
    · have ex : x = c := UInt8.toNat_inj.1 (by omega)
      subst ex
      rw [if_pos rfl, if_pos (by rw [h.sn]; omega)]
      simp
    · rw [if_neg e, h.see x hx1 hx2]
      have ex : x ≠ c := fun e2 => e (by rw [e2])
      simp [ex]

theorem Trym.info5 : (Trym.prog.info? 5).map (fun i => (i.zero, i.size, i.bytes)) = some (some (.int .u8 0), 1, 1) := by kernel_rfl

theorem Buf.more {B : Nat} {w' : World} {v' : Value} {l : List UInt8} {s : ByteArray} (h : w'.ownsRow B 5 1 v' (l.length + s.size) (l.map bv ++ Lib.strCells s)) : Buf B w' v' (l ++ bl s) := by
  unfold Buf
  rw [List.length_append, bl_length, List.map_append, ← str_cells]
  exact h

theorem wpList_buf {w : World} {ops : Array Oper} {rest : List Oper} {o : Oper} {a : Act} {Q : Exit → Act → World → Prop} (hgd : o.guard = none) (sl x : Operand)
    (ho : o.op = .call { callee := .builtin .append, args := #[sl, x], argTypes := #[33, 9] })
    (B : Nat) (v : Value) (l : List UInt8) (hs : a.eval sl = v) (hb : Buf B w v l) (s : ByteArray) (hx : a.eval x = .string s)
    (hn : l.length + s.size ≤ 4194304) (hB : B ≤ w.heap.size)
    (h : ∀ v' w', Buf B w' v' (l ++ bl s) → w.grownBy w' v.ownBlock → wpList Trym.prog ops Q rest (a.put o.dst v') w') : wpList Trym.prog ops Q (o :: rest) a w := by
  obtain ⟨i0, hi, hz0, hz1, hz2⟩ := info_parts Trym.info5
  exact Lib.wpList_append_own_string w hgd sl x 33 9 ho B 5 i0 Trym.underlying33 Trym.underlying9 hi hz0 hz1 hz2 v l.length (l.map bv) hs hb s hx (by unfold maxLen; omega) (by omega) hB (fun v' w' h1 h2 _ => h v' w' (Buf.more h1) h2)

theorem Buf.alloc {B : Nat} {w : World} {v : Value} {l : List UInt8} (h : Buf B w v l) (o : Obj) : Buf B (w.alloc o) v l := World.ownsRow.alloc h o

theorem Mem.alloc {B : Nat} {w wr : World} {o : Nat} {oa sa : Array Value} (h : Mem B w wr o oa sa) (x : Obj) : Mem B w (wr.alloc x) o oa sa :=
  ⟨h.bel.alloc h.base x, by have := h.base; rw [World.size_alloc]; omega, h.low, by rw [Below.heap_alloc _ _ _ (some_lt h.ord)]; exact h.ord, by rw [Below.heap_alloc _ _ _ (some_lt h.see)]; exact h.see⟩

theorem wpList_buf1 {w : World} {ops : Array Oper} {rest : List Oper} {o : Oper} {a : Act} {Q : Exit → Act → World → Prop} (hgd : o.guard = none) (sl x : Operand)
    (ho : o.op = .call { callee := .builtin .append, args := #[sl, x], argTypes := #[33, 33] })
    (B : Nat) (v : Value) (l : List UInt8) (hs : a.eval sl = v) (hb : Buf B w v l) (c : UInt8) (hx : a.eval x = .slice (some ⟨w.heap.size, 0, none⟩) 1 1)
    (hn : l.length + 1 ≤ 4194304) (hB : B ≤ w.heap.size)
    (h : ∀ v' w', Buf B w' v' (l ++ [c]) → (w.alloc (.cells #[.int .u8 (c.toNat : Int)] 5)).grownBy w' v.ownBlock → wpList Trym.prog ops Q rest (a.put o.dst v') w') : wpList Trym.prog ops Q (o :: rest) a (w.alloc (.cells #[.int .u8 (c.toNat : Int)] 5)) := by
  obtain ⟨i0, hi, hz0, hz1, hz2⟩ := info_parts Trym.info5
  refine wpList_append_own _ hgd sl x 33 ho B 5 i0 (.int .u8 0) 1 1 Trym.underlying33 hi hz0 hz1 hz2 rfl (by decide) v l.length (l.map bv) hs (by exact hb.alloc _) ⟨w.heap.size, 0, none⟩ 1 1 [.int .u8 (c.toNat : Int)] hx rfl (by exact cell_one_new _ _ _) (by intro u hu; simp at hu; subst hu; rfl) (by unfold maxLen; omega) (by omega) (by rw [World.size_alloc]; omega) ?_
  intro v' w' h1 h2 _
  refine h v' w' ?_ h2
  unfold Buf
  rw [List.length_append, List.map_append]
  exact h1

end Go.Proofs.Qxb6604042aMods
