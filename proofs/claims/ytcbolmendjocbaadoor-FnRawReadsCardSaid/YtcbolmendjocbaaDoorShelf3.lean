/- THE SHELF's LAY OF bytes.TrimRightFunc AT THIS DUMP, in plain words, by the kit's lay-plain. -/
import Derived.Shelf.Spec.BytesTrimFunc
import Derived.Test.YtcbolmendjocbaaDoorProg
namespace Go.Proofs
open Go.Shelf
def Tryd.lays744_ren : Go.Shelf.Ren := ⟨fun | 44 => 22 | 56 => 33 | 32 => 34 | 33 => 42 | 49 => 43 | 50 => 46 | n => n, fun | 30 => 22 | 48 => 63 | 4 => 4 | 3 => 3 | 0 => 0 | 5 => 5 | 33 => 75 | 21 => 21 | 66 => 93 | 25 => 88 | 69 => 96 | 68 => 95 | n => n, fun | 2 => 6 | 3 => 7 | n => n⟩
theorem Tryd.lays744 : Go.Proofs.Lays7.n44 Tryd.prog Tryd.lays744_ren := {
  mixed := by kernel_rfl
  f32 := Tryd.func34.trans (congrArg some (by kernel_rfl))
  f33 := Tryd.func42.trans (congrArg some (by kernel_rfl))
  f44 := Tryd.func22.trans (congrArg some (by kernel_rfl))
  f49 := Tryd.func43.trans (congrArg some (by kernel_rfl))
  f50 := Tryd.func46.trans (congrArg some (by kernel_rfl))
  f56 := Tryd.func33.trans (congrArg some (by kernel_rfl))
  t0 := Tryd.underlying0
  a0 := Tryd.isAgg0
  z0 := Tryd.sizeOf0
  v0 := Tryd.zeroValue0
  i0 := by kernel_rfl
  t3 := Tryd.underlying3
  a3 := Tryd.isAgg3
  z3 := Tryd.sizeOf3
  v3 := Tryd.zeroValue3
  i3 := by kernel_rfl
  t4 := Tryd.underlying4
  a4 := Tryd.isAgg4
  z4 := Tryd.sizeOf4
  v4 := Tryd.zeroValue4
  i4 := by kernel_rfl
  t5 := Tryd.underlying5
  a5 := Tryd.isAgg5
  z5 := Tryd.sizeOf5
  v5 := Tryd.zeroValue5
  i5 := by kernel_rfl
  t21 := Tryd.underlying21
  a21 := Tryd.isAgg21
  z21 := Tryd.sizeOf21
  v21 := Tryd.zeroValue21
  i21 := by kernel_rfl
  t25 := Tryd.underlying88
  a25 := Tryd.isAgg88
  z25 := Tryd.sizeOf88
  v25 := Tryd.zeroValue88
  i25 := by kernel_rfl
  t30 := Tryd.underlying22
  a30 := Tryd.isAgg22
  z30 := Tryd.sizeOf22
  v30 := Tryd.zeroValue22
  i30 := by kernel_rfl
  t33 := Tryd.underlying75
  a33 := Tryd.isAgg75
  z33 := Tryd.sizeOf75
  v33 := Tryd.zeroValue75
  i33 := by kernel_rfl
  t48 := Tryd.underlying63
  a48 := Tryd.isAgg63
  z48 := Tryd.sizeOf63
  v48 := Tryd.zeroValue63
  i48 := by kernel_rfl
  t66 := Tryd.underlying93
  a66 := Tryd.isAgg93
  z66 := Tryd.sizeOf93
  t68 := Tryd.underlying95
  a68 := Tryd.isAgg95
  z68 := Tryd.sizeOf95
  v68 := Tryd.zeroValue95
  i68 := by kernel_rfl
  t69 := Tryd.underlying96
  a69 := Tryd.isAgg96
  z69 := Tryd.sizeOf96
  v69 := Tryd.zeroValue96
  i69 := by kernel_rfl
  g2 := by kernel_rfl
  g3 := by kernel_rfl }
end Go.Proofs
