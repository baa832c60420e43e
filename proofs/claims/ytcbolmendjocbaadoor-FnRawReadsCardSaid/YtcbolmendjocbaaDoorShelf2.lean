/- THE SHELF's CONTRACT OF bytes.TrimLeft AT THIS DUMP, in plain words, by the kit's lay-plain. -/
import Derived.Shelf.Bytes.SlTrim
import Derived.Test.YtcbolmendjocbaaDoorProg
namespace Go.Proofs
open Go.Shelf
def Tryd.laysV8_ren : Go.Shelf.Ren := ⟨fun | 8 => 24 | 9 => 35 | 11 => 36 | 12 => 37 | 14 => 38 | 16 => 44 | 17 => 34 | 18 => 45 | 20 => 43 | n => n, fun | 22 => 22 | 9 => 9 | 3 => 3 | 4 => 4 | 5 => 5 | 28 => 80 | 27 => 79 | 0 => 0 | 31 => 83 | 33 => 75 | 21 => 21 | 36 => 93 | 37 => 88 | 40 => 96 | 39 => 95 | n => n, fun | 0 => 6 | 1 => 7 | n => n⟩
theorem Tryd.laysV8 : Go.Proofs.SlLaysV.n8 Tryd.prog Tryd.laysV8_ren := {
  mixed := by kernel_rfl
  f8 := Tryd.func24.trans (congrArg some (by kernel_rfl))
  f9 := Tryd.func35.trans (congrArg some (by kernel_rfl))
  f11 := Tryd.func36.trans (congrArg some (by kernel_rfl))
  f12 := Tryd.func37.trans (congrArg some (by kernel_rfl))
  f14 := Tryd.func38.trans (congrArg some (by kernel_rfl))
  f16 := Tryd.func44.trans (congrArg some (by kernel_rfl))
  f17 := Tryd.func34.trans (congrArg some (by kernel_rfl))
  f18 := Tryd.func45.trans (congrArg some (by kernel_rfl))
  f20 := Tryd.func43.trans (congrArg some (by kernel_rfl))
  t0 := Tryd.underlying0
  a0 := Tryd.isAgg0
  z0 := Tryd.sizeOf0
  v0 := Tryd.zeroValue0
  t3 := Tryd.underlying3
  a3 := Tryd.isAgg3
  z3 := Tryd.sizeOf3
  v3 := Tryd.zeroValue3
  t4 := Tryd.underlying4
  a4 := Tryd.isAgg4
  z4 := Tryd.sizeOf4
  v4 := Tryd.zeroValue4
  t5 := Tryd.underlying5
  a5 := Tryd.isAgg5
  z5 := Tryd.sizeOf5
  v5 := Tryd.zeroValue5
  t9 := Tryd.underlying9
  a9 := Tryd.isAgg9
  z9 := Tryd.sizeOf9
  v9 := Tryd.zeroValue9
  t21 := Tryd.underlying21
  a21 := Tryd.isAgg21
  z21 := Tryd.sizeOf21
  v21 := Tryd.zeroValue21
  t22 := Tryd.underlying22
  a22 := Tryd.isAgg22
  z22 := Tryd.sizeOf22
  v22 := Tryd.zeroValue22
  t27 := Tryd.underlying79
  a27 := Tryd.isAgg79
  z27 := Tryd.sizeOf79
  t28 := Tryd.underlying80
  a28 := Tryd.isAgg80
  z28 := Tryd.sizeOf80
  v28 := Tryd.zeroValue80
  t31 := Tryd.underlying83
  a31 := Tryd.isAgg83
  z31 := Tryd.sizeOf83
  v31 := Tryd.zeroValue83
  t33 := Tryd.underlying75
  a33 := Tryd.isAgg75
  z33 := Tryd.sizeOf75
  v33 := Tryd.zeroValue75
  t36 := Tryd.underlying93
  a36 := Tryd.isAgg93
  z36 := Tryd.sizeOf93
  t37 := Tryd.underlying88
  a37 := Tryd.isAgg88
  z37 := Tryd.sizeOf88
  v37 := Tryd.zeroValue88
  t39 := Tryd.underlying95
  a39 := Tryd.isAgg95
  z39 := Tryd.sizeOf95
  v39 := Tryd.zeroValue95
  t40 := Tryd.underlying96
  a40 := Tryd.isAgg96
  z40 := Tryd.sizeOf96
  v40 := Tryd.zeroValue96 }
open Go.RowKit in
/-- bytes.TrimLeft at an ASCII cutset. -/
theorem Tryd.bytes_TrimLeft_ascii (hv27 : ∀ w, (zeroValue 79).run Tryd.prog w = .ok (.agg (Array.replicate 256 (.bool false))) w) (hi27 : (Tryd.prog.info? 79).map (·.size) = some 256) (p : Option Addr) (n c : Nat) (bs : List UInt8) (cutset : ByteArray) (w : World)
    (hb : bs.length = n) (hnc : n ≤ c) (hbig : c ≤ 9223372036854775807) (h1 : Lib.BytesAt w p n bs) (hcs : cutset.size < 4294967281) (hascii : ∀ (j : Nat) b, cutset.data.toList[j]? = some b → b.toNat < 128) :
    Calls Tryd.prog 24 #[.slice p n c, .string cutset] w fun e w' => e = .returned (Lib.leftV p n c (n - (Lib.trimLeftS bs cutset.data.toList).length)) ∧ Below w.heap.size w w' := Any.bytes_TrimLeft_ascii Tryd.laysV8 hv27 hi27 p n c bs cutset w hb hnc hbig h1 hcs hascii
end Go.Proofs
