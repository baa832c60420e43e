/- What the laws of seat r3 share: io.EOF as the row lists it, and a world that holds all that the rows list. -/
import Derived.Test.YtcbolmendjocbaaDoorRe
import Derived.Test.YtcbolmendjocbaaDoorOpen
import Derived.Test.YtcbolmendjocbaaDoorCards
import Derived.Test.YtcbolmendjocbaaDoorTie
import Derived.Deep.DeepHandedRow
import Derived.Deep.DeepLaidRun
import Derived.Stop.LaidErr
import Derived.MakeChecks
namespace Go.Proofs.YtcbolmendjocbaaDoor
open Go.ChangeShapes Go.WideShapes Go.ChangeAt Go.RowKit Qp

/-- io.EOF holds an error that lies in an old block -/
structure EofW (w : World) (ea : Addr) : Prop where
  eof : EofAt w ea
  lt : ea.block < w.heap.size

theorem gE : Tryd.prog.globalNamed "io.EOF" = some 0 := by kernel_rfl
theorem gEType : (Tryd.prog.globals[0]?).map (·.type) = some 46 := by kernel_rfl
theorem cellsE : Tryd.prog.cellsOf 86 = 1 := by kernel_rfl
theorem cellsS : Tryd.prog.cellsOf 9 = 1 := by kernel_rfl
/-- the name of io.EOF's type, as the row has it -/
def nameE : String := match (Rows.laid_io_EOF : DataW Unit) with
  | .iface n _ => n
  | _ => "x"
theorem rowE (u : TypeId) (h : Tryd.prog.typeName? 3 u = some nameE) : u = 84 :=
  typeName_ptr_named (nm := "errors.errorString") (by kernel_rfl) (by kernel_rfl) (by decide) u (h.trans (congrArg some (by decide)))

/-- the variables that the rows list -/
def laidL : List (String × DataW Unit) := [("unicode/utf8.acceptRanges", Rows.laid_unicode_utf8_acceptRanges), ("io.EOF", Rows.laid_io_EOF), ("io.ErrUnexpectedEOF", Rows.laid_io_ErrUnexpectedEOF), ("io.ErrNoProgress", Rows.laid_io_ErrNoProgress), ("bufio.ErrBufferFull", Rows.laid_bufio_ErrBufferFull), ("bufio.errNegativeRead", Rows.laid_bufio_errNegativeRead), ("unicode/utf8.first", Rows.laid_unicode_utf8_first)]
theorem laid_tail {P : Program} {x : String × DataW Unit} {r : List (String × DataW Unit)} {W : World} (h : laidMet P (x :: r) W) : laidMet P r W := by
  obtain ⟨ps, hl, hn, hrows⟩ := h
  obtain ⟨n, d⟩ := x
  obtain ⟨g, t, cs, f, p, q, -, -, -, -, hr, rfl⟩ := hl
  exact ⟨q, hr, (List.nodup_append.1 hn).2.1, fun b off hm => hrows b off (List.mem_append_right _ hm)⟩

theorem eof_of_laid {W : World} (h : laidMetH Tryd.prog laidL W) : ∃ ea, EofW W ea := by
  rw [MakeChecks.laidMetH_plain _ _ _ (by kernel_rfl)] at h
  obtain ⟨a0, s0, hv0, hc0, -, -⟩ := laid_sentinel (laid_tail h) gE gEType Tryd.underlying46 rowE Tryd.underlying84 Tryd.underlying86 rfl rfl Tryd.underlying9 cellsE cellsS
  have hg : W.cell? ⟨0, 0, none⟩ = some (.iface 84 (.pointer (some a0))) := by simpa using World.var?_cell gE hv0 0
  exact ⟨a0, hg, cell_lt hc0⟩

noncomputable def low : Nat := (World.holding Tryd.prog default ⟨#[], #[], []⟩).heap.size
def errObj (d : DataW Unit) : Obj := match d with
  | .iface _ (.ptr (.agg [.lit (.string s)])) => .cells #[.string ⟨s.toArray⟩] 86
  | _ => .cells #[] 86
def lit1 : DataW Unit → Value
  | .lit (.int k n) => .int k n
  | _ => undef
def row1 (d : DataW Unit) : List Value := match d with
  | .agg l => l.map lit1
  | _ => []
def row2 (d : DataW Unit) : List Value := match d with
  | .agg l => l.flatMap row1
  | _ => []
noncomputable def setVar (g : Nat) (cs : Array Value) (w : World) : World := { w with heap := w.heap.modify g fun
      | .cells _ t frozen => .cells cs t frozen
      | o => o }
noncomputable def errAt (k : Nat) : Value := .iface 84 (.pointer (some ⟨low + k, 0, none⟩))
/-- a world in which each listed variable holds what the row lists -/
noncomputable def laidWorld (os : Os) : World :=
  let w0 := World.holding Tryd.prog os ⟨#[errObj Rows.laid_io_EOF, errObj Rows.laid_io_ErrUnexpectedEOF, errObj Rows.laid_io_ErrNoProgress, errObj Rows.laid_bufio_ErrBufferFull, errObj Rows.laid_bufio_errNegativeRead], #[], []⟩
  setVar 0 #[errAt 0] (setVar 2 #[errAt 1] (setVar 4 #[errAt 2] (setVar 1 #[errAt 3] (setVar 3 #[errAt 4]
    (setVar 7 (row2 Rows.laid_unicode_utf8_acceptRanges).toArray (setVar 6 (row1 Rows.laid_unicode_utf8_first).toArray w0))))))
theorem laid_met (os : Os) (args : Array Value) : laidMet Tryd.prog laidL ((laidWorld os).forCall (fun _ _ => 0) ⟨#[], args, []⟩).memory :=
  laidMet_of_run3 8 (by kernel_rfl) (by kernel_rfl) (by kernel_rfl)

/-- A SLICE OF INTEGERS, OPENED. -/
theorem open_is {H : Type} {enc : TypeId × Value → H} {W : World} {a0 : Option Addr} {len0 cap0 : Nat} {d0 : DataW H} {p0 : List MemPlace} (h0 : DataW.Trod enc Tryd.prog W 0 (fun _ => true) true 23 (.slice a0 len0 cap0) d0 p0) :
    ∃ l, Is W (.slice a0 len0 cap0) l := by
  obtain ⟨fuel, hf⟩ := h0
  rcases open_ints Tryd.underlying23 Tryd.underlying3 (by kernel_rfl) hf with ⟨hcs, hx⟩ | ⟨x, l, c, zs, hcs, _, hl, hm, hz, hx, hcell, hwz⟩
  · simp [Value.cells] at hcs
    obtain ⟨rfl, rfl, rfl⟩ := hcs
    exact ⟨[], none, 0, rfl, Nat.le_refl _, by omega, fun k hk => absurd hk (by simp)⟩
  · simp [Value.cells] at hcs
    obtain ⟨rfl, rfl, rfl⟩ := hcs
    have hz : zs.length = cap0 := by simpa using hz
    have hll : (zs.take len0).length = len0 := by simp; omega
    refine ⟨zs.take len0, some x, cap0, by rw [hll], by rw [hll]; exact hl, by unfold maxLen at hm; omega, fun k hk => ?_⟩
    rw [hll] at hk
    obtain ⟨b, off, rfl, hat⟩ := ints_at hcell (by omega)
    refine ⟨b, off, rfl, ?_⟩
    have hkz : k < zs.length := by omega
    rw [hat k hkz]
    simp [List.getD, hkz]
end Go.Proofs.YtcbolmendjocbaaDoor
