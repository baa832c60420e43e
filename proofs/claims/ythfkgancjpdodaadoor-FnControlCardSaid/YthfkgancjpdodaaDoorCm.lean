/- What the laws over the Reader share: io.EOF as the row lists it, and a world that holds it. -/
import Derived.Test.YthfkgancjpdodaaDoorRa1
import Derived.Test.YthfkgancjpdodaaDoorDlast
import Derived.Test.YthfkgancjpdodaaDoorOpen
import Derived.Test.YthfkgancjpdodaaDoorCards
import Derived.Test.YthfkgancjpdodaaDoorTie
import Derived.Deep.DeepHandedRow
import Derived.Stop.LaidErr
import Derived.MakeChecks
namespace Go.Proofs.YthfkgancjpdodaaDoor
open Go.ChangeShapes Go.WideShapes Go.ChangeAt Go.RowKit Qp

/-- io.EOF holds an error that lies in an old block -/
structure EofW (w : World) (ea : Addr) : Prop where
  eof : EofAt w ea
  lt : ea.block < w.heap.size
theorem EofW.below {w w' : World} {ea : Addr} (h : EofW w ea) (hb : Below w.heap.size w w') : EofW w' ea :=
  ⟨below_cell hb _ _ h.eof, Nat.lt_of_lt_of_le h.lt hb.size⟩

theorem gE : Tryd.prog.globalNamed "io.EOF" = some 0 := by kernel_rfl
theorem gEType : (Tryd.prog.globals[0]?).map (·.type) = some 68 := by kernel_rfl
theorem cellsE : Tryd.prog.cellsOf 133 = 1 := by kernel_rfl
theorem cellsS : Tryd.prog.cellsOf 9 = 1 := by kernel_rfl
/-- the name of io.EOF's type, as the row has it -/
def nameE : String := match (Rows.laid_io_EOF : DataW Unit) with
  | .iface n _ => n
  | _ => "x"
theorem rowE (u : TypeId) (h : Tryd.prog.typeName? 3 u = some nameE) : u = 96 :=
  typeName_ptr_named (nm := "errors.errorString") (by kernel_rfl) (by kernel_rfl) (by decide) u (h.trans (congrArg some (by decide)))

theorem eof_of_laid {W : World} (h : laidMetH Tryd.prog [("io.EOF", Rows.laid_io_EOF)] W) : ∃ ea, EofW W ea := by
  rw [MakeChecks.laidMetH_plain _ _ _ (by kernel_rfl)] at h
  obtain ⟨a0, s0, hv0, hc0, -, -⟩ := laid_sentinel h gE gEType Tryd.underlying68 rowE Tryd.underlying96 Tryd.underlying133 rfl rfl Tryd.underlying9 cellsE cellsS
  have hg : W.cell? ⟨0, 0, none⟩ = some (.iface 96 (.pointer (some a0))) := by simpa using World.var?_cell gE hv0 0
  exact ⟨a0, hg, cell_lt hc0⟩

noncomputable def low : Nat := (World.holding Tryd.prog default ⟨#[], #[], []⟩).heap.size
/-- a world in which io.EOF holds its error -/
noncomputable def laidWorld (os : Os) : World :=
  let w0 := World.holding Tryd.prog os ⟨#[.cells #[.string ⟨#[69, 79, 70]⟩] 133], #[], []⟩
  { w0 with heap := w0.heap.modify 0 fun
      | .cells _ t frozen => .cells #[.iface 96 (.pointer (some ⟨low, 0, none⟩))] t frozen
      | o => o }
theorem laid_met (os : Os) (args : Array Value) : laidMet Tryd.prog [("io.EOF", Rows.laid_io_EOF)] ((laidWorld os).forCall (fun _ _ => 0) ⟨#[], args, []⟩).memory :=
  laidMet_of_run (ps := [.cell 0 0, .cell low 0]) 8 (by kernel_rfl) (by kernel_rfl) (by kernel_rfl)
end Go.Proofs.YthfkgancjpdodaaDoor
