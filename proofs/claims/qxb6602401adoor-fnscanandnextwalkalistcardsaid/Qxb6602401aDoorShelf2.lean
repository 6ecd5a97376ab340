import Derived.Test.Qxb6602401aDoorShelf
import Derived.Shelf.Spec.DecodeRune
import Derived.Lib.IndexEntry
import Derived.Lib.Bytealg
namespace Go.Proofs
open Go.Shelf
def Tryd.lays32_ren : Go.Shelf.Ren := ⟨fun | 32 => 37 | 49 => 44 | n => n, fun | 25 => 53 | 30 => 22 | 33 => 47 | 66 => 57 | 68 => 59 | 69 => 60 | n => n, fun | 2 => 1 | 3 => 2 | n => n⟩
theorem Tryd.lays32 : Go.Proofs.Lays7.n32 Tryd.prog Tryd.lays32_ren := {
  mixed := by kernel_rfl
  f32 := Tryd.func37.trans (congrArg some (by kernel_rfl))
  f49 := Tryd.func44.trans (congrArg some (by kernel_rfl))
  t0 := Tryd.underlying0
  a0 := Tryd.isAgg0
  z0 := Tryd.sizeOf0
  v0 := Tryd.zeroValue0
  i0 := by kernel_rfl
  t3 := Tryd.underlying3
  a3 := Tryd.isAgg3
  z3 := Tryd.sizeOf3
  v3 := Tryd.zeroValue3
  i3 := by kernel_rfl
  t4 := Tryd.underlying4
  a4 := Tryd.isAgg4
  z4 := Tryd.sizeOf4
  v4 := Tryd.zeroValue4
  i4 := by kernel_rfl
  t5 := Tryd.underlying5
  a5 := Tryd.isAgg5
  z5 := Tryd.sizeOf5
  v5 := Tryd.zeroValue5
  i5 := by kernel_rfl
  t21 := Tryd.underlying21
  a21 := Tryd.isAgg21
  z21 := Tryd.sizeOf21
  v21 := Tryd.zeroValue21
  i21 := by kernel_rfl
  t25 := Tryd.underlying53
  a25 := Tryd.isAgg53
  z25 := Tryd.sizeOf53
  v25 := Tryd.zeroValue53
  i25 := by kernel_rfl
  t30 := Tryd.underlying22
  a30 := Tryd.isAgg22
  z30 := Tryd.sizeOf22
  v30 := Tryd.zeroValue22
  i30 := by kernel_rfl
  t33 := Tryd.underlying47
  a33 := Tryd.isAgg47
  z33 := Tryd.sizeOf47
  v33 := Tryd.zeroValue47
  i33 := by kernel_rfl
  t66 := Tryd.underlying57
  a66 := Tryd.isAgg57
  z66 := Tryd.sizeOf57
  t68 := Tryd.underlying59
  a68 := Tryd.isAgg59
  z68 := Tryd.sizeOf59
  v68 := Tryd.zeroValue59
  i68 := by kernel_rfl
  t69 := Tryd.underlying60
  a69 := Tryd.isAgg60
  z69 := Tryd.sizeOf60
  v69 := Tryd.zeroValue60
  i69 := by kernel_rfl
  g2 := by kernel_rfl
  g3 := by kernel_rfl }
open Go.RowKit Go.Lib in
theorem Tryd.utf8_DecodeRune (s : ByteArray) (b off cap : Nat) (w : World) (hT : Lib.Utf8Tabs 1 2 w) (hp : ∀ j, j < s.size → w.cell? ⟨b, off + j, none⟩ = some (.int .u8 (s.get! j).toNat)) :
    Calls Tryd.prog 37 #[.slice (some ⟨b, off, none⟩) s.size cap] w fun e w' => e = .returned (.tuple #[.int .i32 (Lib.decodeGo s).1, .int .i64 (Lib.decodeGo s).2]) ∧ Below w.heap.size w w' :=
  Any7.utf8_DecodeRune Tryd.lays32 s b off cap w hT hp
open Go.RowKit Go.Lib in
theorem Tryd.bytealg_IndexByteString (s : ByteArray) (c : Int) (w : World) : (callFunc 32 #[.string s, .int .u8 c]).run Tryd.prog w = .ok (.value (.int .i64 (Lib.indexByte s.data.toList c.toNat.toUInt8))) w := by
  rw [run_callFunc_extern Tryd.func32 (by kernel_rfl) (by kernel_rfl) (by kernel_rfl) (e := Extern.BytealgIndexByte.indexByte) (by kernel_rfl), Lib.run_indexByteString]
  rfl
open Go.RowKit Go.Lib in
theorem Tryd.bytealg_IndexString (a b : ByteArray) (w : World) (m : Int) (hm : w.cell? ⟨0, 0, none⟩ = some (.int .i64 m)) (h2 : 2 ≤ b.size) (hb : (b.size : Int) ≤ m) (ha : a.size < 4294967281) :
    (callFunc 38 #[.string a, .string b]).run Tryd.prog w = .ok (.value (.int .i64 (Lib.index a.data.toList b.data.toList))) w := by
  rw [run_callFunc_extern Tryd.func38 (by kernel_rfl) (by kernel_rfl) (by kernel_rfl) (e := Extern.BytealgIndex.index) (by kernel_rfl), Lib.run_indexString a b w 0 m (by kernel_rfl) hm h2 hb ha]
  rfl
end Go.Proofs
