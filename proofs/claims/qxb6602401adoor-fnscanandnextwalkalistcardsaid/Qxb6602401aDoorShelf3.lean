import Derived.Test.Qxb6602401aDoorShelf2
import Derived.Shelf.Bytes.SlTrimWalks
import Derived.Deep.WholeRow
namespace Go.Proofs
open Go.Shelf
def Tryd.lays11_ren : Go.Shelf.Ren := ⟨fun | 11 => 35 | n => n, fun | 27 => 44 | n => n, fun | n => n⟩
theorem Tryd.lays11 : Go.Proofs.SlLaysV.n11 Tryd.prog Tryd.lays11_ren := {
  mixed := by kernel_rfl
  f11 := Tryd.func35.trans (congrArg some (by kernel_rfl))
  t0 := Tryd.underlying0
  a0 := Tryd.isAgg0
  z0 := Tryd.sizeOf0
  v0 := Tryd.zeroValue0
  t3 := Tryd.underlying3
  a3 := Tryd.isAgg3
  z3 := Tryd.sizeOf3
  v3 := Tryd.zeroValue3
  t4 := Tryd.underlying4
  a4 := Tryd.isAgg4
  z4 := Tryd.sizeOf4
  v4 := Tryd.zeroValue4
  t5 := Tryd.underlying5
  a5 := Tryd.isAgg5
  z5 := Tryd.sizeOf5
  v5 := Tryd.zeroValue5
  t9 := Tryd.underlying9
  a9 := Tryd.isAgg9
  z9 := Tryd.sizeOf9
  v9 := Tryd.zeroValue9
  t27 := Tryd.underlying44
  a27 := Tryd.isAgg44
  z27 := Tryd.sizeOf44 }
def Tryd.lays16_ren : Go.Shelf.Ren := ⟨fun | 16 => 36 | n => n, fun | 27 => 44 | 31 => 55 | n => n, fun | n => n⟩
theorem Tryd.lays16 : Go.Proofs.SlLaysV.n16 Tryd.prog Tryd.lays16_ren := {
  mixed := by kernel_rfl
  f16 := Tryd.func36.trans (congrArg some (by kernel_rfl))
  t0 := Tryd.underlying0
  a0 := Tryd.isAgg0
  z0 := Tryd.sizeOf0
  v0 := Tryd.zeroValue0
  t4 := Tryd.underlying4
  a4 := Tryd.isAgg4
  z4 := Tryd.sizeOf4
  v4 := Tryd.zeroValue4
  t5 := Tryd.underlying5
  a5 := Tryd.isAgg5
  z5 := Tryd.sizeOf5
  v5 := Tryd.zeroValue5
  t27 := Tryd.underlying44
  a27 := Tryd.isAgg44
  z27 := Tryd.sizeOf44
  t31 := Tryd.underlying55
  a31 := Tryd.isAgg55
  z31 := Tryd.sizeOf55
  v31 := Tryd.zeroValue55 }
theorem Tryd.info44 : (Tryd.prog.info? 44).map (fun i => (i.zero, i.size)) = some (some (.agg (Array.replicate 256 (.bool false))), 256) := by kernel_rfl
open Go.RowKit Go.Lib in
theorem Tryd.bytes_makeASCIISet (chars : ByteArray) (w : World) (hs : chars.size < 4294967281) (hascii : ∀ (j : Nat) b, chars.data.toList[j]? = some b → b.toNat < 128) :
    Calls Tryd.prog 35 #[.string chars] w fun e w' => e = .returned (.tuple #[.agg (Lib.setCells chars.data.toList), .bool true]) ∧ w' = w.alloc (.cells (Lib.setCells chars.data.toList) 44) :=
  Any.bytes_makeASCIISet Tryd.lays11 (zero_of_info Tryd.info44).1 (zero_of_info Tryd.info44).2 chars w hs hascii
open Go.RowKit Go.Lib in
theorem Tryd.asciiSet_contains (b : Nat) (x : UInt8) (v : Bool) (w : World) (hc : w.cell? ⟨b, x.toNat, none⟩ = some (.bool v)) :
    Calls Tryd.prog 36 #[.pointer (some ⟨b, 0, none⟩), .int .u8 x.toNat] w fun e w' => e = .returned (.bool v) ∧ w' = w :=
  Any.bytes_asciiSet_contains Tryd.lays16 b x v w hc
end Go.Proofs
