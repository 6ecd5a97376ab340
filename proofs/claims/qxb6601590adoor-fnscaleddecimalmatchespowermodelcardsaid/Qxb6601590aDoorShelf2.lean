/- strings.Builder's two writers, laid by hand: the shelf's command does not find the numbers of two types that no body of the closure names; they are given here. -/
import Derived.Test.Qxb6601590aDoorShelf
namespace Go.Proofs
open Go.Shelf Go.RowKit
def Tryd.renB : Go.Shelf.Ren := ⟨fun | 167 => 25 | n => Tryd.lays105_ren.f n, fun | n => Tryd.lays105_ren.t n, fun | n => n⟩
theorem Tryd.lays167 : Go.Proofs.Lays.n167 Tryd.prog Tryd.renB := {
  mixed := by kernel_rfl
  f167 := Tryd.func25.trans (congrArg some (by kernel_rfl))
  f240 := Tryd.func42.trans (congrArg some (by kernel_rfl))
  f276 := Tryd.func63.trans (congrArg some (by kernel_rfl))
  t0 := Tryd.underlying0
  a0 := Tryd.isAgg0
  z0 := Tryd.sizeOf0
  v0 := Tryd.zeroValue0
  t4 := Tryd.underlying4
  a4 := Tryd.isAgg4
  z4 := Tryd.sizeOf4
  v4 := Tryd.zeroValue4
  t5 := Tryd.underlying5
  a5 := Tryd.isAgg5
  z5 := Tryd.sizeOf5
  v5 := Tryd.zeroValue5
  t9 := Tryd.underlying9
  a9 := Tryd.isAgg9
  z9 := Tryd.sizeOf9
  v9 := Tryd.zeroValue9
  t20 := Tryd.underlying20
  a20 := Tryd.isAgg20
  z20 := Tryd.sizeOf20
  v20 := Tryd.zeroValue20
  t37 := Tryd.underlying26
  a37 := Tryd.isAgg26
  z37 := Tryd.sizeOf26
  v37 := Tryd.zeroValue26
  t70 := Tryd.underlying42
  a70 := Tryd.isAgg42
  z70 := Tryd.sizeOf42
  v70 := Tryd.zeroValue42
  t72 := Tryd.underlying44
  a72 := Tryd.isAgg44
  z72 := Tryd.sizeOf44
  v72 := Tryd.zeroValue44
  t75 := Tryd.underlying46
  a75 := Tryd.isAgg46
  z75 := Tryd.sizeOf46
  v75 := Tryd.zeroValue46
  t164 := Tryd.underlying83
  a164 := Tryd.isAgg83
  z164 := Tryd.sizeOf83
  v164 := Tryd.zeroValue83 }
theorem Tryd.Builder_Extra_B : Builder.Extra Tryd.prog Tryd.renB := {
  sizeBuilder := by kernel_rfl
  liesBuilder := by kernel_rfl
  t5 := Tryd.underlying5
  a5 := Tryd.isAgg5
  z5 := Tryd.sizeOf5
  v5 := Tryd.zeroValue5
  infoByte := by kernel_rfl
  cellsByte := by kernel_rfl
  sizeByte := by kernel_rfl
  neB5 := by decide }
theorem Tryd.Builder_WriteByte (B b : Nat) (bs : List Value) (c : Int) (w : World) (h : Lib.IsBuilder 44 5 B b bs w) (hlen : bs.length + 1 ≤ 140737488355328) (hBw : B ≤ w.heap.size) :
    Calls Tryd.prog 25 #[.pointer (some ⟨b, 0, none⟩), .int .u8 c] w fun e w' => e = .returned .nilIface ∧ (Lib.BuilderAt 44 5 B b (.pointer (some ⟨b, 0, none⟩)) (bs ++ [.int .u8 c]) w' ∧ Below B w w') :=
  Any.Builder_WriteByte Tryd.lays167 Tryd.Builder_Extra_B B b bs c w h hlen hBw
theorem Tryd.Builder_WriteString (B b : Nat) (bs : List Value) (s : ByteArray) (w : World) (h : Lib.IsBuilder 44 5 B b bs w) (hlen : bs.length + s.size ≤ 140737488355328) (hBw : B ≤ w.heap.size) :
    Calls Tryd.prog 26 #[.pointer (some ⟨b, 0, none⟩), .string s] w fun e w' => e = .returned (.tuple #[.int .i64 s.size, .nilIface]) ∧ (Lib.BuilderAt 44 5 B b (.pointer (some ⟨b, 0, none⟩)) (bs ++ Lib.strCells s) w' ∧ Below B w w') :=
  Any.Builder_WriteString { Tryd.lays105 with } Tryd.Builder_Extra_105 B b bs s w h hlen hBw
end Go.Proofs
