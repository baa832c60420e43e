/- THE SHELF's CONTRACT OF bytes.TrimLeft AT THIS DUMP, in plain words, by the kit's lay-plain. -/
import Derived.Shelf.Bytes.SlTrim
import Derived.Test.YthfkgancjpdodaaDoorProg
namespace Go.Proofs
open Go.Shelf
def Tryd.laysV8_ren : Go.Shelf.Ren := ⟨fun | 8 => 83 | 9 => 92 | 11 => 93 | 12 => 94 | 14 => 95 | 16 => 100 | 17 => 91 | 18 => 101 | 20 => 99 | n => n, fun | 22 => 24 | 9 => 9 | 3 => 3 | 4 => 4 | 5 => 5 | 28 => 128 | 27 => 127 | 0 => 0 | 31 => 131 | 33 => 123 | 21 => 21 | 36 => 136 | 37 => 91 | 40 => 139 | 39 => 138 | n => n, fun | 0 => 6 | 1 => 7 | n => n⟩
theorem Tryd.laysV8 : Go.Proofs.SlLaysV.n8 Tryd.prog Tryd.laysV8_ren := {
  mixed := by kernel_rfl
  f8 := Tryd.func83.trans (congrArg some (by kernel_rfl))
  f9 := Tryd.func92.trans (congrArg some (by kernel_rfl))
  f11 := Tryd.func93.trans (congrArg some (by kernel_rfl))
  f12 := Tryd.func94.trans (congrArg some (by kernel_rfl))
  f14 := Tryd.func95.trans (congrArg some (by kernel_rfl))
  f16 := Tryd.func100.trans (congrArg some (by kernel_rfl))
  f17 := Tryd.func91.trans (congrArg some (by kernel_rfl))
  f18 := Tryd.func101.trans (congrArg some (by kernel_rfl))
  f20 := Tryd.func99.trans (congrArg some (by kernel_rfl))
  t0 := Tryd.underlying0
  a0 := Tryd.isAgg0
  z0 := Tryd.sizeOf0
  v0 := Tryd.zeroValue0
  t3 := Tryd.underlying3
  a3 := Tryd.isAgg3
  z3 := Tryd.sizeOf3
  v3 := Tryd.zeroValue3
  t4 := Tryd.underlying4
  a4 := Tryd.isAgg4
  z4 := Tryd.sizeOf4
  v4 := Tryd.zeroValue4
  t5 := Tryd.underlying5
  a5 := Tryd.isAgg5
  z5 := Tryd.sizeOf5
  v5 := Tryd.zeroValue5
  t9 := Tryd.underlying9
  a9 := Tryd.isAgg9
  z9 := Tryd.sizeOf9
  v9 := Tryd.zeroValue9
  t21 := Tryd.underlying21
  a21 := Tryd.isAgg21
  z21 := Tryd.sizeOf21
  v21 := Tryd.zeroValue21
  t22 := Tryd.underlying24
  a22 := Tryd.isAgg24
  z22 := Tryd.sizeOf24
  v22 := Tryd.zeroValue24
  t27 := Tryd.underlying127
  a27 := Tryd.isAgg127
  z27 := Tryd.sizeOf127
  t28 := Tryd.underlying128
  a28 := Tryd.isAgg128
  z28 := Tryd.sizeOf128
  v28 := Tryd.zeroValue128
  t31 := Tryd.underlying131
  a31 := Tryd.isAgg131
  z31 := Tryd.sizeOf131
  v31 := Tryd.zeroValue131
  t33 := Tryd.underlying123
  a33 := Tryd.isAgg123
  z33 := Tryd.sizeOf123
  v33 := Tryd.zeroValue123
  t36 := Tryd.underlying136
  a36 := Tryd.isAgg136
  z36 := Tryd.sizeOf136
  t37 := Tryd.underlying91
  a37 := Tryd.isAgg91
  z37 := Tryd.sizeOf91
  v37 := Tryd.zeroValue91
  t39 := Tryd.underlying138
  a39 := Tryd.isAgg138
  z39 := Tryd.sizeOf138
  v39 := Tryd.zeroValue138
  t40 := Tryd.underlying139
  a40 := Tryd.isAgg139
  z40 := Tryd.sizeOf139
  v40 := Tryd.zeroValue139 }
open Go.RowKit in
/-- bytes.TrimLeft at an ASCII cutset. -/
theorem Tryd.bytes_TrimLeft_ascii (hv27 : ∀ w, (zeroValue 127).run Tryd.prog w = .ok (.agg (Array.replicate 256 (.bool false))) w) (hi27 : (Tryd.prog.info? 127).map (·.size) = some 256) (p : Option Addr) (n c : Nat) (bs : List UInt8) (cutset : ByteArray) (w : World)
    (hb : bs.length = n) (hnc : n ≤ c) (hbig : c ≤ 9223372036854775807) (h1 : Lib.BytesAt w p n bs) (hcs : cutset.size < 4294967281) (hascii : ∀ (j : Nat) b, cutset.data.toList[j]? = some b → b.toNat < 128) :
    Calls Tryd.prog 83 #[.slice p n c, .string cutset] w fun e w' => e = .returned (Lib.leftV p n c (n - (Lib.trimLeftS bs cutset.data.toList).length)) ∧ Below w.heap.size w w' := Any.bytes_TrimLeft_ascii Tryd.laysV8 hv27 hi27 p n c bs cutset w hb hnc hbig h1 hcs hascii
end Go.Proofs
