/- bytes.Buffer: grow, walked: the new row's number is told. -/
import Derived.Test.YtigebhmdplcciaaBuf
namespace Go.Proofs.Ytigebhmdplcciaa
open Go.RowKit Qp

theorem blen_any (b : Nat) (ao : Option Addr) (l cap : Nat) (w : World) (hl : l ≤ 9223372036854775807) (c0 : w.cell? ⟨b, 0, none⟩ = some (.slice ao l cap)) (c1 : w.cell? ⟨b, 1, none⟩ = some (.int .i64 0)) :
    Calls Try.prog 55 #[.pointer (some ⟨b, 0, none⟩)] w fun e w' => e = .returned (.int .i64 l) ∧ w.drew = w' := by
  go_enter Try.func55, Try.ntmps55
  go_wp2
  go_region
  go_wp2
  go_ret
  refine ⟨?_, rfl⟩
  rfl

/-- what grow leaves -/
def Grew (w : World) (b n : Nat) (out : List UInt8) (w' : World) : Prop :=
  ∃ lr g cap cur, w.heap.size ≤ g ∧ g ≠ b ∧ w'.heap[b]? = some (.cells #[.slice (some ⟨g, 0, none⟩) (out.length + n) cap, .int .i64 0, .int .i8 lr] 43 (0, 0)) ∧
    w'.heap[g]? = some (.cells cur 5 (0, 0)) ∧ cur.size = cap ∧ out.length + n ≤ cap ∧ cap ≤ maxLen ∧ cur.toList.take out.length = Lib.byteCells out ∧ Keep (fun k => k = b) w w'

/-- the three stores behind growSlice -/
theorem grew_end {w w2 : World} {b n N cap2 : Nat} {out : List UInt8} {lr : Int} {v0 v1 : Value} {cells : Array Value} (hb2 : w2.heap[b]? = some (.cells #[v0, .int .i64 0, .int .i8 lr] 43 (0, 0)))
    (hN : w2.heap[N]? = some (.cells cells 5 (0, 0))) (hbN : b < N) (hwN : w.heap.size ≤ N) (hcs : cells.size = cap2) (htk : cells.toList.take out.length = Lib.byteCells out) (hc2 : out.length + n ≤ cap2) (hcm : cap2 ≤ maxLen) (hk : Keep (fun k => k = b) w w2) :
    Grew w b n out (((w2.setCell ⟨b, 0, none⟩ v1).setCell ⟨b, 1, none⟩ (.int .i64 0)).setCell ⟨b, 0, none⟩ (.slice (some ⟨N, 0, none⟩) (out.length + n) cap2)) := by
  refine ⟨lr, N, cap2, cells, hwN, by omega, ?_, ?_, hcs, hc2, hcm, htk, ((hk.setCell _ rfl _).setCell _ rfl _).setCell _ rfl _⟩
  · rw [Lib.heap_setCell_same (Lib.heap_setCell_same (Lib.heap_setCell_same hb2 _) _) _]
    rfl
  · rw [Below.heap_setCell _ _ _ _ (by simp; omega), Below.heap_setCell _ _ _ _ (by simp; omega), Below.heap_setCell _ _ _ _ (by simp; omega)]
    exact hN

theorem cell3 {w : World} {b : Nat} {v0 v1 v2 : Value} (hb : w.heap[b]? = some (.cells #[v0, v1, v2] 43 (0, 0))) : w.cell? ⟨b, 0, none⟩ = some v0 ∧ w.cell? ⟨b, 1, none⟩ = some v1 ∧ w.cell? ⟨b, 2, none⟩ = some v2 ∧
    w.frozen? ⟨b, 0, none⟩ = false ∧ w.frozen? ⟨b, 1, none⟩ = false ∧ w.frozen? ⟨b, 2, none⟩ = false :=
  ⟨by rw [Lib.cell_of_heap hb]; rfl, by rw [Lib.cell_of_heap hb]; rfl, by rw [Lib.cell_of_heap hb]; rfl, Lib.frozen_of_heap hb 0, Lib.frozen_of_heap hb 1, Lib.frozen_of_heap hb 2⟩

theorem info5 : (Try.prog.info? 5).map (fun i => (i.zero, i.size, i.bytes)) = some (some (.int .u8 0), 1, 1) := by kernel_rfl

set_option maxRecDepth 100000 in
set_option maxHeartbeats 3200000 in
theorem grow_nil_small (b : Nat) (lr : Int) (n : Nat) (w : World) (hb : w.heap[b]? = some (.cells #[.slice none 0 0, .int .i64 0, .int .i8 lr] 43 (0, 0))) (hn : 1 ≤ n) (h64 : n ≤ 64) :
    Calls Try.prog 54 #[.pointer (some ⟨b, 0, none⟩), .int .i64 n] w fun e w' => e = .returned (.int .i64 0) ∧ Grew w b n [] w' := by
  have hlt := Lib.lt_of_heap hb
  obtain ⟨c0, c1, c2, f0, f1, f2⟩ := cell3 hb
  obtain ⟨i0, hi, hz0, hz1, hz2⟩ := info_parts info5
  obtain ⟨M, hM⟩ : ∃ M, M = madeCells (Value.int .u8 0).cells ((64 : Int).toNat * i0.size) := ⟨_, rfl⟩
  have hMs : M.size = 64 := by rw [hM, size_madeCells, hz1]; rfl
  have hmk : ∀ W : World, (Instr.makeSlice 24 (.int .i64 (n : Int)) (.int .i64 64)).run Try.prog W = .ok (.slice (some ⟨W.heap.size, 0, none⟩) n 64) (W.alloc (.cells M 5)) := fun W => by
    have h := run_makeSlice (P := Try.prog) W 24 5 i0 (.int .u8 0) Try.underlying24 hi hz0 .i64 .i64 (n : Int) 64 (by omega) (by omega) (by rw [hz1]; decide) (by rw [hz2]; decide) (by decide)
    rw [← hM] at h
    simpa using h
  clear hM hi hz0 hz1 hz2
  have hnil : ∀ W, (binOp .eql 24 (.slice none 0 0) (.slice none 0 0)).run Try.prog W = .ok (.bool true) W := fun W => Lib.run_eql_slice_nil_nil W _ _ Try.underlying24
  have c0a : ∀ o, (w.alloc o).cell? ⟨b, 0, none⟩ = some (.slice none 0 0) := fun o => (World.cell?_of_block (a := ⟨b, 0, none⟩) (Below.heap_alloc w o b hlt)).trans c0
  have f0a : ∀ o, (w.alloc o).frozen? ⟨b, 0, none⟩ = false := fun o => (World.frozen?_of_block (a := ⟨b, 0, none⟩) (Below.heap_alloc w o b hlt)).trans f0
  go_enter Try.func54, Try.ntmps54
  go_wp2_with (first
    | (go_at_call 55; refine (blen_any b none 0 0 _ (by omega) c0 c1).mono ?_; rintro e w' ⟨rfl, rfl⟩)
    | (go_at_call 53; refine (Try.Buffer_tryGrow_none b none 0 0 n w.drew c0 (by omega) (Nat.zero_le _) (by omega)).mono ?_; rintro e w' ⟨rfl, rfl⟩))
  go_ret
  refine ⟨rfl, lr, w.heap.size, 64, M, Nat.le_refl _, by omega, ?_, ?_, hMs, by simpa using h64, by unfold maxLen; omega, rfl, ?_⟩
  · refine (Below.heap_alloc _ _ b ?_).trans ?_
    · rw [World.size_setCell]; exact hlt
    · rw [Lib.heap_setCell_same hb]; simp
  · have := heap_alloc_new (w.setCell ⟨b, 0, none⟩ (.slice (some ⟨w.heap.size, 0, none⟩) n 64)) (.cells M 5)
    rw [World.size_setCell] at this
    exact this
  · exact (((Keep.refl (fun k => k = b) w).setCell ⟨b, 0, none⟩ rfl _).alloc _).drew

set_option maxRecDepth 100000 in
set_option maxHeartbeats 3200000 in
theorem grow_nil_big (b : Nat) (lr : Int) (n : Nat) (w : World) (hb : w.heap[b]? = some (.cells #[.slice none 0 0, .int .i64 0, .int .i8 lr] 43 (0, 0))) (h64 : 64 < n) (hlim : n ≤ 140737488355328) :
    Calls Try.prog 54 #[.pointer (some ⟨b, 0, none⟩), .int .i64 n] w fun e w' => e = .returned (.int .i64 0) ∧ Grew w b n [] w' := by
  have hlt := Lib.lt_of_heap hb
  obtain ⟨c0, c1, c2, f0, f1, f2⟩ := cell3 hb
  have hnil : ∀ W, (binOp .eql 24 (.slice none 0 0) (.slice none 0 0)).run Try.prog W = .ok (.bool true) W := fun W => Lib.run_eql_slice_nil_nil W _ _ Try.underlying24
  have hn : 1 ≤ n := by omega
  go_enter Try.func54, Try.ntmps54
  go_wp2_with (first
    | (go_at_call 55; refine (blen_any b none 0 0 _ (by omega) c0 c1).mono ?_; rintro e w' ⟨rfl, rfl⟩)
    | (go_at_call 53; refine (Try.Buffer_tryGrow_none b none 0 0 n w.drew c0 (by omega) (Nat.zero_le _) (by omega)).mono ?_; rintro e w' ⟨rfl, rfl⟩))
  have hwn : IntKind.i64.wrap (n : Int) = n := by rw [IntKind.wrap_i64]; omega
  go_region_with (
      go_at_call 56
      refine (Try.bytes_growSlice_nil n _ hn hlim).mono ?_
      rintro e w2 ⟨cap2, cells, rfl, hN, hcsz, hcap2, hcm2, hbel⟩
      have hb2 : w2.heap[b]? = _ := (hbel.block b hlt).trans hb
      obtain ⟨d0, d1, d2, e0, e1, e2⟩ := cell3 hb2)
  all_goals (
    go_wp2
    go_ret
    have h := grew_end (w := w) (n := n) (out := []) hb2 hN hlt (Nat.le_refl _) hcsz (by rfl) (by simpa using hcap2) hcm2 (Keep.new ⟨hbel.os, hbel.tape, hbel.output, hbel.size, hbel.block⟩) (v1 := .slice (some ⟨w.heap.size, 0, none⟩) 0 cap2)
    refine ⟨rfl, ?_⟩
    simpa using h)

set_option maxRecDepth 100000 in
set_option maxHeartbeats 6400000 in
theorem grow_row (b g cap : Nat) (out : List UInt8) (cur : Array Value) (lr : Int) (n : Nat) (w : World) (hb : w.heap[b]? = some (.cells #[.slice (some ⟨g, 0, none⟩) out.length cap, .int .i64 0, .int .i8 lr] 43 (0, 0)))
    (hg : w.heap[g]? = some (.cells cur 5 (0, 0))) (hcs : cur.size = cap) (hlc : out.length ≤ cap) (hcm : cap ≤ maxLen) (htk : cur.toList.take out.length = Lib.byteCells out) (hn : 1 ≤ n) (hroom : cap - out.length < n) (hlim : out.length + n ≤ 140737488355328) (hl0 : out.length ≠ 0) :
    Calls Try.prog 54 #[.pointer (some ⟨b, 0, none⟩), .int .i64 n] w fun e w' => e = .returned (.int .i64 out.length) ∧ Grew w b n out w' := by
  have hlt := Lib.lt_of_heap hb
  have hwn : IntKind.i64.wrap (n : Int) = n := by rw [IntKind.wrap_i64]; omega
  have hc2 : cap ≤ 140737488355328 := by omega
  have h1' : ∀ v ∈ cur.toList.take out.length, v.oneCell' = true := by rw [htk]; exact Lib.byteCells_one _
  have HTK := Lib.hid htk
  have HCS := Lib.hid hcs
  have H1 := Lib.hid h1'
  have HG := Lib.hid hg
  clear htk hcs h1' hg
  obtain ⟨l, hl⟩ : ∃ l, l = out.length := ⟨_, rfl⟩
  rw [← hl] at hb hlc hroom hlim hl0 ⊢
  have HL := Lib.hid hl
  clear hl
  have HB := Lib.hid hb
  obtain ⟨c0, c1, c2, f0, f1, f2⟩ := cell3 hb
  have hnil : ∀ W, (binOp .eql 24 (.slice (some ⟨g, 0, none⟩) l cap) (.slice none 0 0)).run Try.prog W = .ok (.bool false) W := fun W => Lib.run_eql_slice_some_nil W _ _ _ Try.underlying24
  clear hb
  unfold maxLen at hcm
  · have hl1 : ((l : Int) == 0) = false := by simpa using hl0
    go_enter Try.func54, Try.ntmps54
    go_wp2_with (first
      | (go_at_call 55; refine (blen_any b _ l cap _ (by omega) c0 c1).mono ?_; rintro e w' ⟨rfl, rfl⟩)
      | (go_at_call 53; refine (Try.Buffer_tryGrow_none b _ l cap n w.drew c0 hlc (by unfold maxLen; omega) hroom).mono ?_; rintro e w' ⟨rfl, rfl⟩))
    go_region_with (
      go_at_call 56
      refine (Try.bytes_growSlice_row g l cap n cur _ ?_ HCS.out hlc hn hlim hc2 (by rw [HL.out]; exact H1.out)).mono ?_
      exact HG.out
      rintro e w2 ⟨cap2, cells, rfl, hN, hcsz, htk2, hcap2, hcm2, hbel⟩
      have hb2 : w2.heap[b]? = _ := (hbel.block b hlt).trans HB.out
      obtain ⟨d0, d1, d2, e0, e1, e2⟩ := cell3 hb2
      have HTK2 := Lib.hid htk2
      clear htk2)
    all_goals (
      go_wp2
      go_ret
      have h := grew_end (w := w) (n := n) (out := out) hb2 hN hlt (Nat.le_refl _) hcsz (by rw [← HTK.out, ← HL.out]; exact HTK2.out) (by rw [← HL.out]; exact hcap2) hcm2 (Keep.new ⟨hbel.os, hbel.tape, hbel.output, hbel.size, hbel.block⟩) (v1 := .slice (some ⟨w.heap.size, 0, none⟩) l cap2)
      rw [← HL.out] at h
      exact ⟨rfl, h⟩)

end Go.Proofs.Ytigebhmdplcciaa
