/- The Writer in memory: one block with its fields and its line. -/
import Derived.Test.YtigebhmdplcciaaRows
import Derived.Test.YtigebhmdplcciaaWlaw
import Derived.WalkKit
import Derived.WalkSpells
import Derived.Lib.Buffer
import Derived.Lib.BufferOwn
namespace Go.Proofs.Ytigebhmdplcciaa
open Go.RowKit Qp

/-- a Writer whose field i reads n, whose line begins with l -/
def Wraw (w : World) (b : Nat) (bin : Bool) (wv : Value) (n : Int) (l : List UInt8) (cr : Bool) : Prop :=
  ∃ junk : List Value, w.heap[b]? = some (.cells ([Value.bool bin, wv, Value.int .i64 n] ++ (Lib.byteCells l ++ (junk ++ [Value.bool cr]))).toArray 51 (0, 0)) ∧ l.length + junk.length = 78

section
variable {w : World} {b : Nat} {bin : Bool} {wv : Value} {n : Int} {l : List UInt8} {cr : Bool}

theorem byteCells_length (l : List UInt8) : (Lib.byteCells l).length = l.length := by simp [Lib.byteCells]

theorem Wraw.c0 (h : Wraw w b bin wv n l cr) : w.cell? ⟨b, 0, none⟩ = some (.bool bin) := by
  obtain ⟨junk, h, _⟩ := h; rw [Lib.cell_of_heap h]; rfl
theorem Wraw.c1 (h : Wraw w b bin wv n l cr) : w.cell? ⟨b, 1, none⟩ = some wv := by
  obtain ⟨junk, h, _⟩ := h; rw [Lib.cell_of_heap h]; rfl
theorem Wraw.c2 (h : Wraw w b bin wv n l cr) : w.cell? ⟨b, 2, none⟩ = some (.int .i64 n) := by
  obtain ⟨junk, h, _⟩ := h; rw [Lib.cell_of_heap h]; rfl
theorem Wraw.ccr (h : Wraw w b bin wv n l cr) : w.cell? ⟨b, 81, none⟩ = some (.bool cr) := by
  obtain ⟨junk, h, hl⟩ := h
  rw [Lib.cell_of_heap h]
  have e : (81 : Nat) = ([Value.bool bin, wv, Value.int .i64 n] ++ (Lib.byteCells l ++ junk) : List Value).length := by
    simp [byteCells_length]; omega
  rw [List.getElem?_toArray, ← List.append_assoc, ← List.append_assoc, List.append_assoc [_, _, _], List.getElem?_append_right (by omega), ← e]
  rfl
theorem Wraw.cline (h : Wraw w b bin wv n l cr) (k : Nat) (hk : k < l.length) : w.cell? ⟨b, 3 + k, none⟩ = some (.int .u8 (l.getD k 0).toNat) := by
  obtain ⟨junk, h, hl⟩ := h
  rw [Lib.cell_of_heap h, List.getElem?_toArray, List.getElem?_append_right (by simp), List.getElem?_append_left (by simp [byteCells_length]; omega)]
  simp [Lib.byteCells, hk]
theorem Wraw.cany (h : Wraw w b bin wv n l cr) (k : Nat) (hk : k < 78) : ∃ v, w.cell? ⟨b, 3 + k, none⟩ = some v := by
  obtain ⟨junk, h, hl⟩ := h
  rw [Lib.cell_of_heap h, List.getElem?_toArray, List.getElem?_eq_getElem (by simp [byteCells_length]; omega)]
  exact ⟨_, rfl⟩
theorem Wraw.fr (h : Wraw w b bin wv n l cr) (k : Nat) : w.frozen? ⟨b, k, none⟩ = false := by
  obtain ⟨junk, h, hl⟩ := h; exact Lib.frozen_of_heap h k
theorem Wraw.lt (h : Wraw w b bin wv n l cr) : b < w.heap.size := by obtain ⟨junk, h, hl⟩ := h; exact Lib.lt_of_heap h
theorem Wraw.len (h : Wraw w b bin wv n l cr) : l.length ≤ 78 := by obtain ⟨junk, h, hl⟩ := h; omega

theorem Wraw.of_heap {w' : World} (h : Wraw w b bin wv n l cr) (e : w'.heap[b]? = w.heap[b]?) : Wraw w' b bin wv n l cr := by
  obtain ⟨junk, h, hl⟩ := h; exact ⟨junk, e.trans h, hl⟩

theorem Wraw.seti (h : Wraw w b bin wv n l cr) (m : Int) : Wraw (w.setCell ⟨b, 2, none⟩ (.int .i64 m)) b bin wv m l cr := by
  obtain ⟨junk, h, hl⟩ := h
  exact ⟨junk, by rw [Lib.heap_setCell_same h]; simp, hl⟩
theorem Wraw.put (h : Wraw w b bin wv n l cr) (c : UInt8) (hk : l.length < 78) (k : Nat) (e : k = 3 + l.length) (x : Int) (hx : x = c.toNat) : Wraw (w.setCell ⟨b, k, none⟩ (.int .u8 x)) b bin wv n (l ++ [c]) cr := by
  subst e; subst hx
  obtain ⟨junk, h, hl⟩ := h
  cases junk with
  | nil => simp at hl; omega
  | cons j junk =>
    refine ⟨junk, ?_, by simp at hl ⊢; omega⟩
    rw [Lib.heap_setCell_same h]
    congr 2
    rw [List.setIfInBounds_toArray]
    congr 1
    rw [List.set_append_right _ _ (by simp), List.set_append_right _ _ (by simp [byteCells_length])]
    simp [Lib.byteCells]
theorem Wraw.setcr (h : Wraw w b bin wv n l cr) (c : Bool) : Wraw (w.setCell ⟨b, 81, none⟩ (.bool c)) b bin wv n l c := by
  obtain ⟨junk, h, hl⟩ := h
  refine ⟨junk, ?_, hl⟩
  rw [Lib.heap_setCell_same h]
  congr 2
  rw [List.setIfInBounds_toArray]
  congr 1
  rw [List.set_append_right _ _ (by simp), List.set_append_right _ _ (by simp [byteCells_length]; omega), List.set_append_right _ _ (by simp [byteCells_length]; omega)]
  congr 3
  have : (81 - ([Value.bool bin, wv, Value.int .i64 n] : List Value).length - (Lib.byteCells l).length - junk.length) = 0 := by simp [byteCells_length]; omega
  rw [this]; rfl
/-- a shorter line: its end is left as it lies -/
theorem Wraw.cut (h : Wraw w b bin wv n l cr) (k : Nat) : Wraw w b bin wv n (l.take k) cr := by
  obtain ⟨junk, h, hl⟩ := h
  refine ⟨Lib.byteCells (l.drop k) ++ junk, ?_, by simp [byteCells_length]; omega⟩
  rw [h]
  congr 3
  rw [List.append_assoc (Lib.byteCells (l.drop k)), ← List.append_assoc (Lib.byteCells (l.take k)), ← Lib.byteCells_append, List.take_append_drop]
end
end Go.Proofs.Ytigebhmdplcciaa
