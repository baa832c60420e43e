/- The Writer in memory: one block with its fields and its line. bytes.Buffer, which the Writer writes into: where its row lies is told. bytes.Buffer: grow, walked: the new row's number is told. bytes.Buffer: Write and Bytes, walked: the row's number is told, and that no other block turns. -/
import Derived.Test.YthfkgancjpdodaaDoorKeep
import Derived.Test.YthfkgancjpdodaaDoorShelf
import Derived.Laws.CopyRow
import Derived.Laws.IdiomCopy
import Derived.Lib.BufferSrc
import Derived.Lib.BufferWrite
namespace Go.Proofs.YthfkgancjpdodaaDoor
open Go.RowKit Qp

/-- a Writer whose field i reads n, whose line begins with l -/
def Wraw (w : World) (b : Nat) (bin : Bool) (wv : Value) (n : Int) (l : List UInt8) (cr : Bool) : Prop :=
  ∃ junk : List Value, w.heap[b]? = some (.cells ([Value.bool bin, wv, Value.int .i64 n] ++ (Lib.byteCells l ++ (junk ++ [Value.bool cr]))).toArray 66 (0, 0)) ∧ l.length + junk.length = 78

section
variable {w : World} {b : Nat} {bin : Bool} {wv : Value} {n : Int} {l : List UInt8} {cr : Bool}

theorem Wraw.c0 (h : Wraw w b bin wv n l cr) : w.cell? ⟨b, 0, none⟩ = some (.bool bin) := by
  obtain ⟨junk, h, _⟩ := h; rw [Lib.cell_of_heap h]; rfl
theorem Wraw.c1 (h : Wraw w b bin wv n l cr) : w.cell? ⟨b, 1, none⟩ = some wv := by
  obtain ⟨junk, h, _⟩ := h; rw [Lib.cell_of_heap h]; rfl
theorem Wraw.c2 (h : Wraw w b bin wv n l cr) : w.cell? ⟨b, 2, none⟩ = some (.int .i64 n) := by
  obtain ⟨junk, h, _⟩ := h; rw [Lib.cell_of_heap h]; rfl
theorem Wraw.ccr (h : Wraw w b bin wv n l cr) : w.cell? ⟨b, 81, none⟩ = some (.bool cr) := by
  obtain ⟨junk, h, hl⟩ := h
  rw [Lib.cell_of_heap h]
  have e : (81 : Nat) = ([Value.bool bin, wv, Value.int .i64 n] ++ (Lib.byteCells l ++ junk) : List Value).length := by
    simp [byteCells_length]; omega
  rw [List.getElem?_toArray, ← List.append_assoc, ← List.append_assoc, List.append_assoc [_, _, _], List.getElem?_append_right (by omega), ← e]
  rfl
theorem Wraw.cline (h : Wraw w b bin wv n l cr) (k : Nat) (hk : k < l.length) : w.cell? ⟨b, 3 + k, none⟩ = some (.int .u8 (l.getD k 0).toNat) := by
  obtain ⟨junk, h, hl⟩ := h
  rw [Lib.cell_of_heap h, List.getElem?_toArray, List.getElem?_append_right (by simp), List.getElem?_append_left (by simp [byteCells_length]; omega)]
  simp [Lib.byteCells, hk]
theorem Wraw.cany (h : Wraw w b bin wv n l cr) (k : Nat) (hk : k < 78) : ∃ v, w.cell? ⟨b, 3 + k, none⟩ = some v := by
  obtain ⟨junk, h, hl⟩ := h
  rw [Lib.cell_of_heap h, List.getElem?_toArray, List.getElem?_eq_getElem (by simp [byteCells_length]; omega)]
  exact ⟨_, rfl⟩
theorem Wraw.fr (h : Wraw w b bin wv n l cr) (k : Nat) : w.frozen? ⟨b, k, none⟩ = false := by
  obtain ⟨junk, h, hl⟩ := h; exact Lib.frozen_of_heap h k
theorem Wraw.lt (h : Wraw w b bin wv n l cr) : b < w.heap.size := by obtain ⟨junk, h, hl⟩ := h; exact Lib.lt_of_heap h
theorem Wraw.len (h : Wraw w b bin wv n l cr) : l.length ≤ 78 := by obtain ⟨junk, h, hl⟩ := h; omega

theorem Wraw.of_heap {w' : World} (h : Wraw w b bin wv n l cr) (e : w'.heap[b]? = w.heap[b]?) : Wraw w' b bin wv n l cr := by
  obtain ⟨junk, h, hl⟩ := h; exact ⟨junk, e.trans h, hl⟩

theorem Wraw.seti (h : Wraw w b bin wv n l cr) (m : Int) : Wraw (w.setCell ⟨b, 2, none⟩ (.int .i64 m)) b bin wv m l cr := by
  obtain ⟨junk, h, hl⟩ := h
  exact ⟨junk, by rw [Lib.heap_setCell_same h]; simp, hl⟩
theorem Wraw.put (h : Wraw w b bin wv n l cr) (c : UInt8) (hk : l.length < 78) (k : Nat) (e : k = 3 + l.length) (x : Int) (hx : x = c.toNat) : Wraw (w.setCell ⟨b, k, none⟩ (.int .u8 x)) b bin wv n (l ++ [c]) cr := by
  subst e; subst hx
  obtain ⟨junk, h, hl⟩ := h
  cases junk with
  | nil => simp at hl; omega
  | cons j junk =>
    refine ⟨junk, ?_, by simp at hl ⊢; omega⟩
    rw [Lib.heap_setCell_same h]
    congr 2
    rw [List.setIfInBounds_toArray]
    congr 1
    rw [List.set_append_right _ _ (by simp), List.set_append_right _ _ (by simp [byteCells_length])]
    simp [Lib.byteCells]
theorem Wraw.setcr (h : Wraw w b bin wv n l cr) (c : Bool) : Wraw (w.setCell ⟨b, 81, none⟩ (.bool c)) b bin wv n l c := by
  obtain ⟨junk, h, hl⟩ := h
  refine ⟨junk, ?_, hl⟩
  rw [Lib.heap_setCell_same h]
  congr 2
  rw [List.setIfInBounds_toArray]
  congr 1
  rw [List.set_append_right _ _ (by simp), List.set_append_right _ _ (by simp [byteCells_length]; omega), List.set_append_right _ _ (by simp [byteCells_length]; omega)]
  congr 3
  have : (81 - ([Value.bool bin, wv, Value.int .i64 n] : List Value).length - (Lib.byteCells l).length - junk.length) = 0 := by simp [byteCells_length]; omega
  rw [this]; rfl
/-- a shorter line: its end is left as it lies -/
theorem Wraw.cut (h : Wraw w b bin wv n l cr) (k : Nat) : Wraw w b bin wv n (l.take k) cr := by
  obtain ⟨junk, h, hl⟩ := h
  refine ⟨Lib.byteCells (l.drop k) ++ junk, ?_, by simp [byteCells_length]; omega⟩
  rw [h]
  congr 3
  rw [List.append_assoc (Lib.byteCells (l.drop k)), ← List.append_assoc (Lib.byteCells (l.take k)), ← Lib.byteCells_append, List.take_append_drop]
end
end Go.Proofs.YthfkgancjpdodaaDoor

namespace Go.Proofs.YthfkgancjpdodaaDoor
open Go.RowKit Qp

/-- a Buffer in block b that has only been written: its row's number, and what it holds -/
def BufAt (w : World) (b : Nat) (ro : Option Nat) (out : List UInt8) : Prop :=
  ∃ lr, match ro with
  | none => w.heap[b]? = some (.cells #[.slice none 0 0, .int .i64 0, .int .i8 lr] 58 (0, 0)) ∧ out = []
  | some g => g ≠ b ∧ out ≠ [] ∧ ∃ cap cur, w.heap[b]? = some (.cells #[.slice (some ⟨g, 0, none⟩) out.length cap, .int .i64 0, .int .i8 lr] 58 (0, 0)) ∧
      w.heap[g]? = some (.cells cur 5 (0, 0)) ∧ cur.size = cap ∧ out.length ≤ cap ∧ cap ≤ maxLen ∧ cur.toList.take out.length = Lib.byteCells out

end Go.Proofs.YthfkgancjpdodaaDoor

namespace Go.Proofs.YthfkgancjpdodaaDoor
open Go.RowKit Qp

theorem blen_any (b : Nat) (ao : Option Addr) (l cap : Nat) (w : World) (hl : l ≤ 9223372036854775807) (c0 : w.cell? ⟨b, 0, none⟩ = some (.slice ao l cap)) (c1 : w.cell? ⟨b, 1, none⟩ = some (.int .i64 0)) :
    Calls Tryd.prog 112 #[.pointer (some ⟨b, 0, none⟩)] w fun e w' => e = .returned (.int .i64 l) ∧ w.drew = w' := by
  go_enter Tryd.func112, Tryd.ntmps112
  go_wp2
  go_region
  go_wp2
  go_ret
  refine ⟨?_, rfl⟩
  rfl

/-- what grow leaves -/
def Grew (w : World) (b n : Nat) (out : List UInt8) (w' : World) : Prop :=
  ∃ lr g cap cur, w.heap.size ≤ g ∧ g ≠ b ∧ w'.heap[b]? = some (.cells #[.slice (some ⟨g, 0, none⟩) (out.length + n) cap, .int .i64 0, .int .i8 lr] 58 (0, 0)) ∧
    w'.heap[g]? = some (.cells cur 5 (0, 0)) ∧ cur.size = cap ∧ out.length + n ≤ cap ∧ cap ≤ maxLen ∧ cur.toList.take out.length = Lib.byteCells out ∧ Keep (fun k => k = b) w w'

/-- the three stores behind growSlice -/
theorem grew_end {w w2 : World} {b n N cap2 : Nat} {out : List UInt8} {lr : Int} {v0 v1 : Value} {cells : Array Value} (hb2 : w2.heap[b]? = some (.cells #[v0, .int .i64 0, .int .i8 lr] 58 (0, 0)))
    (hN : w2.heap[N]? = some (.cells cells 5 (0, 0))) (hbN : b < N) (hwN : w.heap.size ≤ N) (hcs : cells.size = cap2) (htk : cells.toList.take out.length = Lib.byteCells out) (hc2 : out.length + n ≤ cap2) (hcm : cap2 ≤ maxLen) (hk : Keep (fun k => k = b) w w2) :
    Grew w b n out (((w2.setCell ⟨b, 0, none⟩ v1).setCell ⟨b, 1, none⟩ (.int .i64 0)).setCell ⟨b, 0, none⟩ (.slice (some ⟨N, 0, none⟩) (out.length + n) cap2)) := by
  refine ⟨lr, N, cap2, cells, hwN, by omega, ?_, ?_, hcs, hc2, hcm, htk, ((hk.setCell _ rfl _).setCell _ rfl _).setCell _ rfl _⟩
  · rw [Lib.heap_setCell_same (Lib.heap_setCell_same (Lib.heap_setCell_same hb2 _) _) _]
    rfl
  · rw [Below.heap_setCell _ _ _ _ (by simp; omega), Below.heap_setCell _ _ _ _ (by simp; omega), Below.heap_setCell _ _ _ _ (by simp; omega)]
    exact hN

theorem cell3 {w : World} {b : Nat} {v0 v1 v2 : Value} (hb : w.heap[b]? = some (.cells #[v0, v1, v2] 58 (0, 0))) : w.cell? ⟨b, 0, none⟩ = some v0 ∧ w.cell? ⟨b, 1, none⟩ = some v1 ∧ w.cell? ⟨b, 2, none⟩ = some v2 ∧
    w.frozen? ⟨b, 0, none⟩ = false ∧ w.frozen? ⟨b, 1, none⟩ = false ∧ w.frozen? ⟨b, 2, none⟩ = false :=
  ⟨by rw [Lib.cell_of_heap hb]; rfl, by rw [Lib.cell_of_heap hb]; rfl, by rw [Lib.cell_of_heap hb]; rfl, Lib.frozen_of_heap hb 0, Lib.frozen_of_heap hb 1, Lib.frozen_of_heap hb 2⟩

set_option maxRecDepth 100000 in
set_option maxHeartbeats 3200000 in
theorem grow_nil_small (b : Nat) (lr : Int) (n : Nat) (w : World) (hb : w.heap[b]? = some (.cells #[.slice none 0 0, .int .i64 0, .int .i8 lr] 58 (0, 0))) (hn : 1 ≤ n) (h64 : n ≤ 64) :
    Calls Tryd.prog 111 #[.pointer (some ⟨b, 0, none⟩), .int .i64 n] w fun e w' => e = .returned (.int .i64 0) ∧ Grew w b n [] w' := by
  have hlt := Lib.lt_of_heap hb
  obtain ⟨c0, c1, c2, f0, f1, f2⟩ := cell3 hb
  obtain ⟨i0, hi, hz0, hz1, hz2⟩ := info_parts info5
  obtain ⟨M, hM⟩ : ∃ M, M = madeCells (Value.int .u8 0).cells ((64 : Int).toNat * i0.size) := ⟨_, rfl⟩
  have hMs : M.size = 64 := by rw [hM, size_madeCells, hz1]; rfl
  have hmk : ∀ W : World, (Instr.makeSlice 24 (.int .i64 (n : Int)) (.int .i64 64)).run Tryd.prog W = .ok (.slice (some ⟨W.heap.size, 0, none⟩) n 64) (W.alloc (.cells M 5)) := fun W => by
    have h := run_makeSlice (P := Tryd.prog) W 24 5 i0 (.int .u8 0) Tryd.underlying24 hi hz0 .i64 .i64 (n : Int) 64 (by omega) (by omega) (by rw [hz1]; decide) (by rw [hz2]; decide) (by decide)
    rw [← hM] at h
    simpa using h
  clear hM hi hz0 hz1 hz2
  have hnil : ∀ W, (binOp .eql 24 (.slice none 0 0) (.slice none 0 0)).run Tryd.prog W = .ok (.bool true) W := fun W => Lib.run_eql_slice_nil_nil W _ _ Tryd.underlying24
  have c0a : ∀ o, (w.alloc o).cell? ⟨b, 0, none⟩ = some (.slice none 0 0) := fun o => (World.cell?_of_block (a := ⟨b, 0, none⟩) (Below.heap_alloc w o b hlt)).trans c0
  have f0a : ∀ o, (w.alloc o).frozen? ⟨b, 0, none⟩ = false := fun o => (World.frozen?_of_block (a := ⟨b, 0, none⟩) (Below.heap_alloc w o b hlt)).trans f0
  go_enter Tryd.func111, Tryd.ntmps111
  go_wp2_with (first
    | (go_at_call 112; refine (blen_any b none 0 0 _ (by omega) c0 c1).mono ?_; rintro e w' ⟨rfl, rfl⟩)
    | (go_at_call 110; refine (Tryd.Buffer_tryGrow_none b none 0 0 n w.drew c0 (by omega) (Nat.zero_le _) (by omega)).mono ?_; rintro e w' ⟨rfl, rfl⟩))
  go_ret
  refine ⟨rfl, lr, w.heap.size, 64, M, Nat.le_refl _, by omega, ?_, ?_, hMs, by simpa using h64, by unfold maxLen; omega, rfl, ?_⟩
  · refine (Below.heap_alloc _ _ b ?_).trans ?_
    · rw [World.size_setCell]; exact hlt
    · rw [Lib.heap_setCell_same hb]; simp
  · have := heap_alloc_new (w.setCell ⟨b, 0, none⟩ (.slice (some ⟨w.heap.size, 0, none⟩) n 64)) (.cells M 5)
    rw [World.size_setCell] at this
    exact this
  · exact (((Keep.refl (fun k => k = b) w).setCell ⟨b, 0, none⟩ rfl _).alloc _).drew

set_option maxRecDepth 100000 in
set_option maxHeartbeats 3200000 in
theorem grow_nil_big (b : Nat) (lr : Int) (n : Nat) (w : World) (hb : w.heap[b]? = some (.cells #[.slice none 0 0, .int .i64 0, .int .i8 lr] 58 (0, 0))) (h64 : 64 < n) (hlim : n ≤ 140737488355328) :
    Calls Tryd.prog 111 #[.pointer (some ⟨b, 0, none⟩), .int .i64 n] w fun e w' => e = .returned (.int .i64 0) ∧ Grew w b n [] w' := by
  have hlt := Lib.lt_of_heap hb
  obtain ⟨c0, c1, c2, f0, f1, f2⟩ := cell3 hb
  have hnil : ∀ W, (binOp .eql 24 (.slice none 0 0) (.slice none 0 0)).run Tryd.prog W = .ok (.bool true) W := fun W => Lib.run_eql_slice_nil_nil W _ _ Tryd.underlying24
  have hn : 1 ≤ n := by omega
  go_enter Tryd.func111, Tryd.ntmps111
  go_wp2_with (first
    | (go_at_call 112; refine (blen_any b none 0 0 _ (by omega) c0 c1).mono ?_; rintro e w' ⟨rfl, rfl⟩)
    | (go_at_call 110; refine (Tryd.Buffer_tryGrow_none b none 0 0 n w.drew c0 (by omega) (Nat.zero_le _) (by omega)).mono ?_; rintro e w' ⟨rfl, rfl⟩))
  have hwn : IntKind.i64.wrap (n : Int) = n := by rw [IntKind.wrap_i64]; omega
  go_region_with (
      go_at_call 113
      refine (Tryd.bytes_growSlice_nil n _ hn hlim).mono ?_
      rintro e w2 ⟨cap2, cells, rfl, hN, hcsz, hcap2, hcm2, hbel⟩
      have hb2 : w2.heap[b]? = _ := (hbel.block b hlt).trans hb
      obtain ⟨d0, d1, d2, e0, e1, e2⟩ := cell3 hb2)
  all_goals (
    go_wp2
    go_ret
    have h := grew_end (w := w) (n := n) (out := []) hb2 hN hlt (Nat.le_refl _) hcsz (by rfl) (by simpa using hcap2) hcm2 (Keep.new ⟨hbel.os, hbel.tape, hbel.output, hbel.size, hbel.block⟩) (v1 := .slice (some ⟨w.heap.size, 0, none⟩) 0 cap2)
    refine ⟨rfl, ?_⟩
    simpa using h)

set_option maxRecDepth 100000 in
set_option maxHeartbeats 6400000 in
theorem grow_row (b g cap : Nat) (out : List UInt8) (cur : Array Value) (lr : Int) (n : Nat) (w : World) (hb : w.heap[b]? = some (.cells #[.slice (some ⟨g, 0, none⟩) out.length cap, .int .i64 0, .int .i8 lr] 58 (0, 0)))
    (hg : w.heap[g]? = some (.cells cur 5 (0, 0))) (hcs : cur.size = cap) (hlc : out.length ≤ cap) (hcm : cap ≤ maxLen) (htk : cur.toList.take out.length = Lib.byteCells out) (hn : 1 ≤ n) (hroom : cap - out.length < n) (hlim : out.length + n ≤ 140737488355328) (hl0 : out.length ≠ 0) :
    Calls Tryd.prog 111 #[.pointer (some ⟨b, 0, none⟩), .int .i64 n] w fun e w' => e = .returned (.int .i64 out.length) ∧ Grew w b n out w' := by
  have hlt := Lib.lt_of_heap hb
  have hwn : IntKind.i64.wrap (n : Int) = n := by rw [IntKind.wrap_i64]; omega
  have hc2 : cap ≤ 140737488355328 := by omega
  have h1' : ∀ v ∈ cur.toList.take out.length, v.oneCell' = true := by rw [htk]; exact Lib.byteCells_one _
  have HTK := Lib.hid htk
  have HCS := Lib.hid hcs
  have H1 := Lib.hid h1'
  have HG := Lib.hid hg
  clear htk hcs h1' hg
  obtain ⟨l, hl⟩ : ∃ l, l = out.length := ⟨_, rfl⟩
  rw [← hl] at hb hlc hroom hlim hl0 ⊢
  have HL := Lib.hid hl
  clear hl
  have HB := Lib.hid hb
  obtain ⟨c0, c1, c2, f0, f1, f2⟩ := cell3 hb
  have hnil : ∀ W, (binOp .eql 24 (.slice (some ⟨g, 0, none⟩) l cap) (.slice none 0 0)).run Tryd.prog W = .ok (.bool false) W := fun W => Lib.run_eql_slice_some_nil W _ _ _ Tryd.underlying24
  clear hb
  unfold maxLen at hcm
  · have hl1 : ((l : Int) == 0) = false := by simpa using hl0
    go_enter Tryd.func111, Tryd.ntmps111
    go_wp2_with (first
      | (go_at_call 112; refine (blen_any b _ l cap _ (by omega) c0 c1).mono ?_; rintro e w' ⟨rfl, rfl⟩)
      | (go_at_call 110; refine (Tryd.Buffer_tryGrow_none b _ l cap n w.drew c0 hlc (by unfold maxLen; omega) hroom).mono ?_; rintro e w' ⟨rfl, rfl⟩))
    go_region_with (
      go_at_call 113
      refine (Tryd.bytes_growSlice_row g l cap n cur _ ?_ HCS.out hlc hn hlim hc2 (by rw [HL.out]; exact H1.out)).mono ?_
      exact HG.out
      rintro e w2 ⟨cap2, cells, rfl, hN, hcsz, htk2, hcap2, hcm2, hbel⟩
      have hb2 : w2.heap[b]? = _ := (hbel.block b hlt).trans HB.out
      obtain ⟨d0, d1, d2, e0, e1, e2⟩ := cell3 hb2
      have HTK2 := Lib.hid htk2
      clear htk2)
    all_goals (
      go_wp2
      go_ret
      have h := grew_end (w := w) (n := n) (out := out) hb2 hN hlt (Nat.le_refl _) hcsz (by rw [← HTK.out, ← HL.out]; exact HTK2.out) (by rw [← HL.out]; exact hcap2) hcm2 (Keep.new ⟨hbel.os, hbel.tape, hbel.output, hbel.size, hbel.block⟩) (v1 := .slice (some ⟨w.heap.size, 0, none⟩) l cap2)
      rw [← HL.out] at h
      exact ⟨rfl, h⟩)

end Go.Proofs.YthfkgancjpdodaaDoor

namespace Go.Proofs.YthfkgancjpdodaaDoor
open Go.RowKit Qp

/-- what a writer of the Buffer leaves: the new row is the old one or a new block, and no other old block has turned -/
def Moved (ro ro' : Option Nat) (w : World) : Prop := ro' = ro ∨ ∃ g, ro' = some g ∧ w.heap.size ≤ g

theorem Keep.setRow {S : Nat → Prop} {a b : World} (h : Keep S a b) (g : Nat) (hg : S g ∨ a.heap.size ≤ g) (cs : Array Value) : Keep S a (b.setRow g cs) := by
  refine ⟨h.os, h.tape, h.output, by simpa [World.setRow] using h.size, fun k hk hn => ?_⟩
  have hne : k ≠ g := by
    rintro rfl
    rcases hg with hg | hg
    · exact hn hg
    · omega
  rw [← h.block k hk hn]
  exact setRow_other b g k cs hne

theorem info5s : (Tryd.prog.info? 5).map (·.size) = some 1 := by kernel_rfl

/-- the end of Write: the bytes are copied into the row -/
theorem written {w w1 : World} {b g cap n : Nat} {lr : Int} {out cs : List UInt8} {cur : Array Value} {ro : Option Nat} (hgb : g ≠ b) (hb : w1.heap[b]? = some (.cells #[.slice (some ⟨g, 0, none⟩) (out.length + n) cap, .int .i64 0, .int .i8 lr] 58 (0, 0)))
    (hg : w1.heap[g]? = some (.cells cur 5 (0, 0))) (hcs : cur.size = cap) (hlc : out.length + n ≤ cap) (hcm : cap ≤ maxLen) (htk : cur.toList.take out.length = Lib.byteCells out) (hn : cs.length = n) (hn0 : n ≠ 0)
    (hk : Keep (fun k => k = b ∨ ro = some k) w w1) (hr : ro = some g ∨ w.heap.size ≤ g) :
    ∃ ro', BufAt (w1.setRow g (cur.toList.take out.length ++ Lib.byteCells cs ++ cur.toList.drop (out.length + n)).toArray) b ro' (out ++ cs) ∧ Moved ro ro' w ∧
      Keep (fun k => k = b ∨ ro = some k) w (w1.setRow g (cur.toList.take out.length ++ Lib.byteCells cs ++ cur.toList.drop (out.length + n)).toArray) := by
  refine ⟨some g, ⟨lr, hgb, ?_, cap, _, ?_, setRow_heap _ _ _ _ _ _ hg, ?_, ?_, hcm, ?_⟩, ?_, hk.setRow g (by rcases hr with hr | hr; exact .inl (.inr hr); exact .inr hr) _⟩
  · intro e; rw [List.append_eq_nil_iff] at e; rw [e.2] at hn; exact hn0 hn.symm
  · rw [setRow_other _ _ _ _ (Ne.symm hgb), hb, List.length_append, hn]
  · simp [byteCells_length, hcs]; omega
  · rw [List.length_append, hn]; exact hlc
  · rw [htk, ← Lib.byteCells_append, List.toList_toArray, List.take_append_of_le_length (by rw [byteCells_length]; exact Nat.le_refl _), List.take_of_length_le (by rw [byteCells_length]; exact Nat.le_refl _)]
  · rcases hr with hr | hr
    · exact .inl hr.symm
    · exact .inr ⟨g, rfl, hr⟩

section
variable {w : World} {b : Nat} {ro : Option Nat} {out cs : List UInt8}
variable (a : Addr) (n c : Nat) (h : BufAt w b ro out) (hn : cs.length = n) (hab : a.block ≠ b) (har : ro ≠ some a.block)
  (hsrc : ∀ j v, (Lib.byteCells cs)[j]? = some v → w.cell? (a.add j) = some v) (hlim : out.length + n ≤ 140737488355328)

set_option maxRecDepth 100000 in
set_option maxHeartbeats 3200000 in
/-- WRITE, WHERE THERE IS ROOM. -/
theorem bwrite_room (g cap : Nat) (cur : Array Value) (lr : Int) (hgb : g ≠ b) (hb : w.heap[b]? = some (.cells #[.slice (some ⟨g, 0, none⟩) out.length cap, .int .i64 0, .int .i8 lr] 58 (0, 0)))
    (hg : w.heap[g]? = some (.cells cur 5 (0, 0))) (hcs : cur.size = cap) (hcm : cap ≤ maxLen) (htk : cur.toList.take out.length = Lib.byteCells out) (hroom : out.length + n ≤ cap) (hn0 : n ≠ 0)
    (hn : cs.length = n) (hab : a.block ≠ b) (har : a.block ≠ g) (hsrc : ∀ j v, (Lib.byteCells cs)[j]? = some v → w.cell? (a.add j) = some v) (ro : Option Nat) (hro : ro = some g) :
    Calls Tryd.prog 108 #[.pointer (some ⟨b, 0, none⟩), .slice (some a) n c] w fun e w' => e = .returned (.tuple #[.int .i64 n, .nilIface]) ∧
      ∃ ro', BufAt w' b ro' (out ++ cs) ∧ Moved ro ro' w ∧ Keep (fun k => k = b ∨ ro = some k) w w' := by
  have hlt := Lib.lt_of_heap hb
  obtain ⟨c0, c1, c2, f0, f1, f2⟩ := cell3 hb
  -- the world behind the two stores
  have hb1 : (w.setCell ⟨b, 2, none⟩ (.int .i8 0)).heap[b]? = some (.cells #[.slice (some ⟨g, 0, none⟩) out.length cap, .int .i64 0, .int .i8 0] 58 (0, 0)) := by rw [Lib.heap_setCell_same hb]; rfl
  obtain ⟨d0, d1, d2, e0, e1, e2⟩ := cell3 hb1
  obtain ⟨w1, hw1⟩ : ∃ w1, w1 = w.setCell ⟨b, 2, none⟩ (.int .i8 0) := ⟨_, rfl⟩
  obtain ⟨w2, hw2⟩ : ∃ w2, w2 = w1.setCell ⟨b, 0, none⟩ (.slice (some ⟨g, 0, none⟩) (out.length + n) cap) := ⟨_, rfl⟩
  have hb2 : w2.heap[b]? = some (.cells #[.slice (some ⟨g, 0, none⟩) (out.length + n) cap, .int .i64 0, .int .i8 0] 58 (0, 0)) := by rw [hw2, Lib.heap_setCell_same (hw1 ▸ hb1)]; rfl
  have hk2 : Keep (fun k => k = b ∨ ro = some k) w w2 := by rw [hw2, hw1]; exact ((Keep.refl _ _).setCell _ (.inl rfl) _).setCell _ (.inl rfl) _
  have hg2 : w2.heap[g]? = some (.cells cur 5 (0, 0)) := by rw [hw2, hw1, Below.heap_setCell _ _ _ _ hgb, Below.heap_setCell _ _ _ _ hgb]; exact hg
  have hsrc2 : ∀ j v, (Lib.byteCells cs)[j]? = some v → w2.cell? (a.add j) = some v := fun j v hj => hk2.cell (by rw [Lib.block_add]; rintro (e | e); exact hab e; rw [hro] at e; exact har (Option.some.inj e).symm) (hsrc j v hj)
  have hend := written hgb hb2 hg2 hcs hroom hcm htk hn hn0 hk2 (.inl hro)
  have hcp := run_copy_row (P := Tryd.prog) w2 24 24 3 5 g out.length n (cap - out.length) a n c cur 5 (Lib.byteCells cs) Tryd.underlying24 info5s hg2 (by rw [byteCells_length, hn]; simp) hsrc2 (by rw [byteCells_length]; omega) (Lib.byteCells_one _)
  rw [byteCells_length, hn] at hcp
  have hne : ¬ cap = out.length := by omega
  have c02 : w2.cell? ⟨b, 0, none⟩ = some (.slice (some ⟨g, 0, none⟩) (out.length + n) cap) := (cell3 hb2).1
  have hcm' := hcm
  unfold maxLen at hcm'
  have HE := Lib.hid hend
  have HW1 := Lib.hid hw1
  have HW2 := Lib.hid hw2
  have htg : ∀ (W : World), W = w1 → Calls Tryd.prog 110 #[.pointer (some ⟨b, 0, none⟩), .int .i64 n] W fun e w' => e = .returned (.tuple #[.int .i64 out.length, .bool true]) ∧ w2 = w' := by
    rintro W rfl
    refine (Tryd.Buffer_tryGrow_room b _ out.length cap n W (by rw [hw1]; exact d0) (by rw [hw1]; exact e0) (by omega) hcm (by omega)).mono ?_
    rintro e w' ⟨h1, h2⟩
    exact ⟨h1, by rw [hw2, h2]⟩
  have HT := Lib.hid htg
  clear htg hend hw1 hw2 hsrc hsrc2 hg2 hb2 hb1 hb hg htk hcs hn hro hk2 d0 d1 d2 e0 e1 e2 hcm
  go_enter Tryd.func108, Tryd.ntmps108
  go_wp2_with (go_at_call 110; refine (HT.out _ HW1.out.symm).mono ?_; rintro e w' ⟨rfl, rfl⟩)
  go_ret2
  exact ⟨rfl, by rw [← List.append_assoc]; exact HE.out⟩

set_option maxRecDepth 100000 in
set_option maxHeartbeats 3200000 in
/-- WRITE, WHERE THERE IS NONE: the buffer's fields, and what grow leaves. -/
theorem bwrite_grow (ao : Option Addr) (cap : Nat) (lr : Int) (hb : w.heap[b]? = some (.cells #[.slice ao out.length cap, .int .i64 0, .int .i8 lr] 58 (0, 0)))
    (hlc : out.length ≤ cap) (hcm : cap ≤ maxLen) (hroom : cap - out.length < n) (hn0 : n ≠ 0)
    (hgrow : ∀ w1, w1.heap[b]? = some (.cells #[.slice ao out.length cap, .int .i64 0, .int .i8 0] 58 (0, 0)) → (∀ k, k ≠ b → w1.heap[k]? = w.heap[k]?) →
      Calls Tryd.prog 111 #[.pointer (some ⟨b, 0, none⟩), .int .i64 n] w1 fun e w' => e = .returned (.int .i64 out.length) ∧ Grew w1 b n out w')
    (hn : cs.length = n) (hab : a.block ≠ b) (hsrc : ∀ j v, (Lib.byteCells cs)[j]? = some v → w.cell? (a.add j) = some v) (ro : Option Nat) :
    Calls Tryd.prog 108 #[.pointer (some ⟨b, 0, none⟩), .slice (some a) n c] w fun e w' => e = .returned (.tuple #[.int .i64 n, .nilIface]) ∧
      ∃ ro', BufAt w' b ro' (out ++ cs) ∧ Moved ro ro' w ∧ Keep (fun k => k = b ∨ ro = some k) w w' := by
  have hlt := Lib.lt_of_heap hb
  obtain ⟨c0, c1, c2, f0, f1, f2⟩ := cell3 hb
  have hb1 : (w.setCell ⟨b, 2, none⟩ (.int .i8 0)).heap[b]? = some (.cells #[.slice ao out.length cap, .int .i64 0, .int .i8 0] 58 (0, 0)) := by rw [Lib.heap_setCell_same hb]; rfl
  obtain ⟨d0, d1, d2, e0, e1, e2⟩ := cell3 hb1
  obtain ⟨w1, hw1⟩ : ∃ w1, w1 = w.setCell ⟨b, 2, none⟩ (.int .i8 0) := ⟨_, rfl⟩
  have hk1 : Keep (fun k => k = b ∨ ro = some k) w w1 := by rw [hw1]; exact (Keep.refl _ _).setCell _ (.inl rfl) _
  have hgr := hgrow w1 (hw1 ▸ hb1) (fun k hk => by rw [hw1]; exact Below.heap_setCell _ _ _ _ hk)
  have hcl : ∃ l, l = out.length := ⟨_, rfl⟩
  have HW1 := Lib.hid hw1
  have htg : ∀ (W : World), W = w1 → Calls Tryd.prog 110 #[.pointer (some ⟨b, 0, none⟩), .int .i64 n] W fun e w' => e = .returned (.tuple #[.int .i64 0, .bool false]) ∧ w1 = w' := by
    rintro W rfl
    refine (Tryd.Buffer_tryGrow_none b _ out.length cap n W (by rw [hw1]; exact d0) hlc hcm (by omega)).mono ?_
    rintro e w' ⟨h1, h2⟩
    exact ⟨h1, h2.symm⟩
  have HT := Lib.hid htg
  have HG := Lib.hid hgr
  have HS := Lib.hid hsrc
  have HN := Lib.hid hn
  have HSZ := Lib.hid (show w1.heap.size = w.heap.size by rw [hw1, World.size_setCell])
  clear htg hgr hgrow hw1 hsrc hb1 hb hn d0 d1 d2 e0 e1 e2 hcl
  go_enter Tryd.func108, Tryd.ntmps108
  go_wp2_with (first
    | (go_at_call 110; refine (HT.out _ HW1.out.symm).mono ?_; rintro e w' ⟨rfl, rfl⟩)
    | (go_at_call 111; refine HG.out.mono ?_))
  rintro e w2 ⟨rfl, lr2, g, cap2, cur, hsz, hgb, hb2, hg2, hcs, hlc2, hcm2, htk, hk2⟩
  have hk3 : Keep (fun k => k = b ∨ ro = some k) w w2 := hk1.trans hk2 (fun k _ hk => .inl hk)
  have hsrc2 : ∀ j v, (Lib.byteCells cs)[j]? = some v → w2.cell? (a.add j) = some v := fun j v hj => (hk1.trans hk2 (T := fun k => k = b) (S := fun k => k = b ∨ ro = some k) (fun k _ hk => .inl hk) |> fun _ => by
    have h1 : w1.cell? (a.add j) = some v := by
      rw [HW1.out]
      exact ((Keep.refl (fun k => k = b) w).setCell ⟨b, 2, none⟩ rfl _).cell (by rw [Lib.block_add]; exact hab) (HS.out j v hj)
    exact hk2.cell (by rw [Lib.block_add]; exact hab) h1)
  have hend := written hgb hb2 hg2 hcs hlc2 hcm2 htk HN.out hn0 hk3 (.inr (by rw [← HSZ.out]; exact hsz))
  have hcp := run_copy_row (P := Tryd.prog) w2 24 24 3 5 g out.length n (cap2 - out.length) a n c cur 5 (Lib.byteCells cs) Tryd.underlying24 info5s hg2 (by rw [byteCells_length, HN.out]; simp) hsrc2 (by rw [byteCells_length, HN.out]; omega) (Lib.byteCells_one _)
  rw [byteCells_length, HN.out] at hcp
  have hne : ¬ cap2 = out.length := by omega
  have c02 : w2.cell? ⟨b, 0, none⟩ = some (.slice (some ⟨g, 0, none⟩) (out.length + n) cap2) := (cell3 hb2).1
  have hcm' := hcm2
  unfold maxLen at hcm'
  have HE := Lib.hid hend
  clear hend hsrc2 hb2 hg2 hcs htk hk2 hk3 hcm2
  go_wp2
  go_ret2
  exact ⟨rfl, by rw [← List.append_assoc]; exact HE.out⟩

set_option maxRecDepth 100000 in
set_option maxHeartbeats 3200000 in
/-- WRITE of nothing. -/
theorem bwrite_none (ao : Option Addr) (cap : Nat) (lr : Int) (hb : w.heap[b]? = some (.cells #[.slice ao out.length cap, .int .i64 0, .int .i8 lr] 58 (0, 0)))
    (hlc : out.length ≤ cap) (hcm : cap ≤ maxLen) (hao : ao = none → cap = 0) :
    Calls Tryd.prog 108 #[.pointer (some ⟨b, 0, none⟩), .slice (some a) 0 c] w fun e w' => e = .returned (.tuple #[.int .i64 0, .nilIface]) ∧
      (w.setCell ⟨b, 2, none⟩ (.int .i8 0)).setCell ⟨b, 0, none⟩ (.slice ao out.length cap) = w' := by
  have hlt := Lib.lt_of_heap hb
  obtain ⟨c0, c1, c2, f0, f1, f2⟩ := cell3 hb
  have hb1 : (w.setCell ⟨b, 2, none⟩ (.int .i8 0)).heap[b]? = some (.cells #[.slice ao out.length cap, .int .i64 0, .int .i8 0] 58 (0, 0)) := by rw [Lib.heap_setCell_same hb]; rfl
  obtain ⟨d0, d1, d2, e0, e1, e2⟩ := cell3 hb1
  obtain ⟨w1, hw1⟩ : ∃ w1, w1 = w.setCell ⟨b, 2, none⟩ (.int .i8 0) := ⟨_, rfl⟩
  obtain ⟨w2, hw2⟩ : ∃ w2, w2 = w1.setCell ⟨b, 0, none⟩ (.slice ao out.length cap) := ⟨_, rfl⟩
  have hb2 : w2.heap[b]? = some (.cells #[.slice ao out.length cap, .int .i64 0, .int .i8 0] 58 (0, 0)) := by rw [hw2, Lib.heap_setCell_same (hw1 ▸ hb1)]; rfl
  have c02 : w2.cell? ⟨b, 0, none⟩ = some (.slice ao out.length cap) := (cell3 hb2).1
  have htg : ∀ (W : World), W = w1 → Calls Tryd.prog 110 #[.pointer (some ⟨b, 0, none⟩), .int .i64 0] W fun e w' => e = .returned (.tuple #[.int .i64 out.length, .bool true]) ∧ w2 = w' := by
    rintro W rfl
    refine (Tryd.Buffer_tryGrow_room b _ out.length cap 0 W (by rw [hw1]; exact d0) (by rw [hw1]; exact e0) hlc hcm (Nat.zero_le _)).mono ?_
    rintro e w' ⟨h1, h2⟩
    exact ⟨h1, by rw [hw2, h2]; rfl⟩
  have hce : ∀ d dLen dCap W, (Builtin.copy_ #[24, 24] 3 #[.slice d dLen dCap, .slice (some a) 0 c]).run Tryd.prog W = .ok (goInt 0) W := fun d dLen dCap W => run_copy_none W 24 24 3 5 d (some a) dLen dCap 0 c Tryd.underlying24 info5s (by simp)
  have HW1 := Lib.hid hw1
  have HW2 := Lib.hid hw2
  have HT := Lib.hid htg
  have HAO := Lib.hid hao
  clear htg hw1 hw2 hb1 hb2 hb d0 d1 d2 e0 e1 e2 hao
  have hcm' := hcm
  unfold maxLen at hcm'
  cases ao with
  | none =>
    have hc0 := HAO.out rfl
    have hl0 : out = [] := List.eq_nil_of_length_eq_zero (by omega)
    subst hl0
    subst hc0
    go_enter Tryd.func108, Tryd.ntmps108
    go_wp2_with (go_at_call 110; refine (HT.out _ HW1.out.symm).mono ?_; rintro e w' ⟨rfl, rfl⟩)
    go_ret2
    exact ⟨rfl, by rw [HW2.out, HW1.out]; first | done | rfl | (rw [show cap = out.length by assumption])⟩
  | some ad =>
    go_enter Tryd.func108, Tryd.ntmps108
    go_wp2_with (go_at_call 110; refine (HT.out _ HW1.out.symm).mono ?_; rintro e w' ⟨rfl, rfl⟩)
    all_goals go_ret2
    all_goals exact ⟨rfl, by rw [HW2.out, HW1.out]; first | done | rfl | (rw [show cap = out.length by assumption])⟩

end

/-- WRITE. -/
theorem bwrite_any {w : World} {b : Nat} {ro : Option Nat} {out cs : List UInt8} (a : Addr) (n c : Nat) (h : BufAt w b ro out) (hn : cs.length = n) (hab : a.block ≠ b) (har : ro ≠ some a.block)
    (hsrc : ∀ j v, (Lib.byteCells cs)[j]? = some v → w.cell? (a.add j) = some v) (hlim : out.length + n ≤ 140737488355328) :
    Calls Tryd.prog 108 #[.pointer (some ⟨b, 0, none⟩), .slice (some a) n c] w fun e w' => e = .returned (.tuple #[.int .i64 n, .nilIface]) ∧
      ∃ ro', BufAt w' b ro' (out ++ cs) ∧ Moved ro ro' w ∧ Keep (fun k => k = b ∨ ro = some k) w w' := by
  obtain ⟨lr, h⟩ := h
  by_cases hn0 : n = 0
  · subst hn0
    have hcs0 : cs = [] := List.eq_nil_of_length_eq_zero hn
    subst hcs0
    cases ro with
    | none =>
      obtain ⟨hb, rfl⟩ := h
      refine (bwrite_none (out := []) a c none 0 lr hb (Nat.zero_le _) (Nat.zero_le _) (fun _ => rfl)).mono ?_
      rintro e w' ⟨rfl, rfl⟩
      refine ⟨rfl, none, ⟨0, ?_, rfl⟩, .inl rfl, ((Keep.refl _ _).setCell _ (.inl rfl) _).setCell _ (.inl rfl) _⟩
      rw [Lib.heap_setCell_same (Lib.heap_setCell_same hb _) _]; rfl
    | some g =>
      obtain ⟨hgb, hne, cap, cur, hb, hg, hcs, hlc, hcm, htk⟩ := h
      refine (bwrite_none (out := out) a c _ cap lr hb hlc hcm (by simp)).mono ?_
      rintro e w' ⟨rfl, rfl⟩
      refine ⟨rfl, some g, ⟨0, hgb, by simpa using hne, cap, cur, ?_, ?_, hcs, by simpa using hlc, hcm, by simpa using htk⟩, .inl rfl, ((Keep.refl _ _).setCell _ (.inl rfl) _).setCell _ (.inl rfl) _⟩
      · rw [Lib.heap_setCell_same (Lib.heap_setCell_same hb _) _]; simp
      · rw [Below.heap_setCell _ _ _ _ hgb, Below.heap_setCell _ _ _ _ hgb]; exact hg
  · cases ro with
    | none =>
      obtain ⟨hb, rfl⟩ := h
      refine bwrite_grow (out := []) a n c none 0 lr hb (Nat.zero_le _) (Nat.zero_le _) (by simp; omega) hn0 ?_ hn hab hsrc none
      intro w1 hb1 _
      by_cases h64 : n ≤ 64
      · exact grow_nil_small b 0 n w1 hb1 (by omega) h64
      · exact grow_nil_big b 0 n w1 hb1 (by omega) (by simpa using hlim)
    | some g =>
      obtain ⟨hgb, hne, cap, cur, hb, hg, hcs, hlc, hcm, htk⟩ := h
      by_cases hroom : out.length + n ≤ cap
      · exact bwrite_room a n c g cap cur lr hgb hb hg hcs hcm htk hroom hn0 hn hab (fun e => har (by rw [e])) hsrc _ rfl
      · refine bwrite_grow (out := out) a n c _ cap lr hb hlc hcm (by omega) hn0 ?_ hn hab hsrc _
        intro w1 hb1 hk1
        exact grow_row b g cap out cur 0 n w1 hb1 (by rw [hk1 g hgb]; exact hg) hcs hlc hcm htk (by omega) (by omega) hlim (by simpa using hne)
end Go.Proofs.YthfkgancjpdodaaDoor
