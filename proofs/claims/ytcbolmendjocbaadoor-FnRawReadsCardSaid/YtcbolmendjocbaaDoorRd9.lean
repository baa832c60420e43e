/- The walks of the readers' makers. -/
import Derived.Test.YtcbolmendjocbaaDoorRd8
import Derived.Laws.OwnMore
namespace Go.Proofs.YtcbolmendjocbaaDoor
open Go.RowKit Qp

theorem made_bytes (n : Nat) : madeCells (Value.int .u8 0).cells n = (Lib.byteCells (List.replicate n 0)).toArray := by
  apply Array.toList_inj.1
  rw [show (Value.int .u8 0).cells = #[Value.int .u8 0] from rfl, toList_madeCells_one]
  simp [Lib.byteCells]

theorem cells7 {w : World} {b : Nat} {v0 v1 v2 v3 v4 v5 v6 : Value} {T : TypeId} (hb : w.heap[b]? = some (.cells #[v0, v1, v2, v3, v4, v5, v6] T (0, 0))) :
    w.cell? ⟨b, 0, none⟩ = some v0 ∧ w.cell? ⟨b, 1, none⟩ = some v1 ∧ w.cell? ⟨b, 2, none⟩ = some v2 ∧ w.cell? ⟨b, 3, none⟩ = some v3 ∧ w.cell? ⟨b, 4, none⟩ = some v4 ∧ w.cell? ⟨b, 5, none⟩ = some v5 ∧ w.cell? ⟨b, 6, none⟩ = some v6 ∧ ∀ k, w.frozen? ⟨b, k, none⟩ = false := by
  refine ⟨?_, ?_, ?_, ?_, ?_, ?_, ?_, fun k => Lib.frozen_of_heap hb k⟩ <;> (rw [Lib.cell_of_heap hb]; rfl)

theorem reset_sets {w : World} {Bu Bf : Nat} {rd v0 v1 v2 v3 v4 v5 v6 : Value} (h : w.heap[Bu]? = some (.cells #[v0, v1, v2, v3, v4, v5, v6] 71 (0, 0))) (w' : World)
    (hw : w' = (((((((w.setCell ⟨Bu, 0, none⟩ (.slice (some ⟨Bf, 0, none⟩) 4096 4096)).setCell ⟨Bu, 1, none⟩ rd).setCell ⟨Bu, 2, none⟩ (.int .i64 0)).setCell ⟨Bu, 3, none⟩ (.int .i64 0)).setCell ⟨Bu, 4, none⟩ .nilIface).setCell ⟨Bu, 5, none⟩ (.int .i64 (-1))).setCell ⟨Bu, 6, none⟩ (.int .i64 (-1)))) :
    BuAt w' Bu Bf rd 0 0 .nilIface ∧ Keep (fun b => b = Bu) w w' := by
  subst hw
  constructor
  · refine ⟨-1, -1, ?_⟩
    rw [Lib.heap_setCell_same (Lib.heap_setCell_same (Lib.heap_setCell_same (Lib.heap_setCell_same (Lib.heap_setCell_same (Lib.heap_setCell_same (Lib.heap_setCell_same h _) _) _) _) _) _) _]
    rfl
  · have h0 := (Keep.refl (fun b => b = Bu) w).setCell ⟨Bu, 0, none⟩ rfl (.slice (some ⟨Bf, 0, none⟩) 4096 4096)
    have h1 := h0.setCell ⟨Bu, 1, none⟩ rfl rd
    have h2 := h1.setCell ⟨Bu, 2, none⟩ rfl (.int .i64 0)
    have h3 := h2.setCell ⟨Bu, 3, none⟩ rfl (.int .i64 0)
    have h4 := h3.setCell ⟨Bu, 4, none⟩ rfl .nilIface
    have h5 := h4.setCell ⟨Bu, 5, none⟩ rfl (.int .i64 (-1))
    exact h5.setCell ⟨Bu, 6, none⟩ rfl (.int .i64 (-1))

set_option maxRecDepth 100000 in
set_option maxHeartbeats 1600000 in
theorem reset_any {w : World} {Bu Bf : Nat} {T : TypeId} {a : Option Addr} {v0 v1 v2 v3 v4 v5 v6 : Value} (h : w.heap[Bu]? = some (.cells #[v0, v1, v2, v3, v4, v5, v6] 71 (0, 0))) :
    Calls Tryd.prog 40 #[.pointer (some ⟨Bu, 0, none⟩), .slice (some ⟨Bf, 0, none⟩) 4096 4096, .iface T (.pointer a)] w fun e w' => e = .returned (.tuple #[]) ∧ BuAt w' Bu Bf (.iface T (.pointer a)) 0 0 .nilIface ∧ Keep (fun b => b = Bu) w w' := by
  obtain ⟨c0, c1, c2, c3, c4, c5, c6, ff⟩ := cells7 h
  have f0 := ff 0
  have f1 := ff 1
  have f2 := ff 2
  have f3 := ff 3
  have f4 := ff 4
  have f5 := ff 5
  have f6 := ff 6
  have H := Lib.hid h
  clear h ff
  go_enter Tryd.func40, Tryd.ntmps40
  go_wp2
  go_end0
  exact ⟨rfl, reset_sets H.out _ rfl⟩

/-- what bufio.NewReader leaves -/
def NewBu (k : Bool) (s : Nat) (w : World) (e : Ending) (w' : World) : Prop :=
  e = .returned (.pointer (some ⟨w.heap.size, 0, none⟩)) ∧ BuAt w' w.heap.size (w.heap.size + 1) (rdv k s) 0 0 .nilIface ∧ RowB w' (w.heap.size + 1) (List.replicate 4096 0) ∧ Below w.heap.size w w'

theorem newBu_end {w w' : World} {k : Bool} {s : Nat} {T : TypeId} {M : Array Value} (hM : M = (Lib.byteCells (List.replicate 4096 0)).toArray) (h1 : BuAt w' w.heap.size (w.heap.size + 1) (rdv k s) 0 0 .nilIface)
    (h2 : Keep (fun b => b = w.heap.size) ((w.alloc (.cells #[.slice none 0 0, .nilIface, .int .i64 0, .int .i64 0, .nilIface, .int .i64 0, .int .i64 0] T)).alloc (.cells M 5)) w') :
    NewBu k s w (.returned (.pointer (some ⟨w.heap.size, 0, none⟩))) w' := by
  refine ⟨rfl, h1, ?_, ?_⟩
  · refine (h2.block (w.heap.size + 1) (by rw [World.size_alloc, World.size_alloc]; omega) (by omega)).trans ?_
    have := heap_alloc_new (w.alloc (.cells #[.slice none 0 0, .nilIface, .int .i64 0, .int .i64 0, .nilIface, .int .i64 0, .int .i64 0] T)) (.cells M 5)
    rw [World.size_alloc, hM] at this
    rw [hM]
    exact this
  · have h3 : Below w.heap.size w ((w.alloc (.cells #[.slice none 0 0, .nilIface, .int .i64 0, .int .i64 0, .nilIface, .int .i64 0, .int .i64 0] T)).alloc (.cells M 5)) :=
      ((Below.refl _ _).alloc (Nat.le_refl _) _).alloc (by rw [World.size_alloc]; omega) _
    exact h3.trans (h2.to_below (by rw [World.size_alloc, World.size_alloc]; omega) (fun k hk e => by omega))

theorem zeroBu (w : World) : (zeroValue 71).run Tryd.prog w = .ok (.agg #[.slice none 0 0, .nilIface, .int .i64 0, .int .i64 0, .nilIface, .int .i64 0, .int .i64 0]) w := by kernel_rfl

set_option maxRecDepth 100000 in
set_option maxHeartbeats 1600000 in
theorem newSize_false {w : World} (s : Nat) : Calls Tryd.prog 28 #[rdv false s, .int .i64 4096] w (NewBu false s w) := by
  obtain ⟨i0, hi, hz0, hz1, hz2⟩ := info_parts info5
  obtain ⟨M, hM⟩ : ∃ M, M = madeCells (Value.int .u8 0).cells ((4096 : Int).toNat * i0.size) := ⟨_, rfl⟩
  have hMs : M = (Lib.byteCells (List.replicate 4096 0)).toArray := by rw [hM, hz1]; exact made_bytes 4096
  have hmk : ∀ W : World, (Instr.makeSlice 22 (.int .i64 4096) (.int .i64 4096)).run Tryd.prog W = .ok (.slice (some ⟨W.heap.size, 0, none⟩) 4096 4096) (W.alloc (.cells M 5)) := fun W => by
    have h := run_makeSlice (P := Tryd.prog) W 22 5 i0 (.int .u8 0) Tryd.underlying22 hi hz0 .i64 .i64 4096 4096 (by omega) (by omega) (by rw [hz1]; decide) (by rw [hz2]; decide) (by decide)
    rw [← hM] at h
    simpa using h
  have HR := Lib.hid (fun (w1 : World) (h : w1.heap[w.heap.size]? = some (.cells #[.slice none 0 0, .nilIface, .int .i64 0, .int .i64 0, .nilIface, .int .i64 0, .int .i64 0] 71 (0, 0))) => reset_any (T := rdT false) (a := some ⟨s, 0, none⟩) (Bf := w.heap.size + 1) h)
  have HMS := Lib.hid hMs
  have hmax : max (4096 : Int) 16 = 4096 := by decide
  have hta : ∀ W : World, (Instr.typeAssert (.iface 43 (.pointer (some ⟨s, 0, none⟩))) 53 54 true).run Tryd.prog W = .ok (.tuple #[.pointer none, .bool false]) W := fun W => by kernel_rfl
  clear hM hi hz0 hz1 hz2 hMs
  unfold rdv
  unfold rdT at HR ⊢
  go_enter Tryd.func28, Tryd.ntmps28
  go_wp2_with fail
  refine (HR.out _ ?_).mono ?_
  · refine (Below.heap_alloc _ _ _ (by rw [World.size_alloc]; omega)).trans ?_
    exact heap_alloc_new _ _
  · rintro e w' ⟨rfl, hb, hk⟩
    have HE := Lib.hid (newBu_end (k := false) (s := s) HMS.out hb hk)
    clear hb hk HMS hmk HR
    go_wp2
    go_ret
    exact HE.out

theorem newSize_true {w : World} (s : Nat) : Calls Tryd.prog 28 #[rdv true s, .int .i64 4096] w (NewBu true s w) := newSize_false s
theorem newSize_any {k : Bool} {w : World} (s : Nat) : Calls Tryd.prog 28 #[rdv k s, .int .i64 4096] w (NewBu k s w) := by
  cases k
  · exact newSize_false s
  · exact newSize_true s

theorem newB_any {k : Bool} {w : World} (s : Nat) : Calls Tryd.prog 19 #[rdv k s] w (NewBu k s w) := by
  have H := Lib.hid (newSize_any (k := k) (w := w) s)
  unfold rdv at H ⊢
  go_enter Tryd.func19, Tryd.ntmps19
  go_wp2_with fail
  refine H.out.mono ?_
  rintro e w' ⟨rfl, h1, h2, h3⟩
  have HE := Lib.hid (show NewBu k s w _ w' from ⟨rfl, h1, h2, h3⟩)
  clear h1 h2 h3
  go_wp2
  go_ret
  exact HE.out

/-- the Reader's own block -/
def RdrAt (w : World) (R Bu : Nat) (ev lv : Value) : Prop := w.heap[R]? = some (.cells #[.pointer (some ⟨Bu, 0, none⟩), ev, lv] 57 (0, 0))

theorem newQ_any {k : Bool} {w : World} (s : Nat) : Calls Tryd.prog 12 #[rdv k s] w fun e w' =>
    ∃ R, w.heap.size ≤ R ∧ e = .returned (.pointer (some ⟨R, 0, none⟩)) ∧ w.heap.size + 1 < R ∧ RdrAt w' R w.heap.size .nilIface (.slice none 0 0) ∧ BuAt w' w.heap.size (w.heap.size + 1) (rdv k s) 0 0 .nilIface ∧ RowB w' (w.heap.size + 1) (List.replicate 4096 0) ∧ Below w.heap.size w w' := by
  have H := Lib.hid (newB_any (k := k) (w := w) s)
  unfold rdv at H ⊢
  go_enter Tryd.func12, Tryd.ntmps12
  go_wp2_with fail
  refine H.out.mono ?_
  rintro e w' ⟨rfl, h1, h2, h3⟩
  have H1 := Lib.hid h1
  have H2 := Lib.hid h2
  have H3 := Lib.hid h3
  clear h1 h2 h3
  go_wp2
  go_ret
  have hs := H2.out.lt
  exact ⟨w'.heap.size, by omega, rfl, hs, heap_alloc_new _ _, H1.out.keep ((Keep.refl (fun _ => False) w').alloc _) id, H2.out.keep ((Keep.refl (fun _ => False) w').alloc _) id, H3.out.alloc (by omega) _⟩

theorem newBytes_any {w : World} {ao : Option Addr} {n cap : Nat} : Calls Tryd.prog 13 #[.slice ao n cap] w fun e w' =>
    e = .returned (.pointer (some ⟨w.heap.size, 0, none⟩)) ∧ w.alloc (.cells #[.slice ao n cap, .int .i64 0, .int .i64 (-1)] 59) = w' := by
  go_enter Tryd.func13, Tryd.ntmps13
  go_wp2
  go_ret
  exact ⟨rfl, rfl⟩

end Go.Proofs.YtcbolmendjocbaaDoor
