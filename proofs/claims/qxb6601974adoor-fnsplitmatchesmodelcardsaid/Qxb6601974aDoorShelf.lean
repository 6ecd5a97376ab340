import Derived.Shelf.Utf8.RuneCount
import Derived.Shelf.Strings.Search1
import Derived.Shelf.Strings.Search2
import Derived.Shelf.Strings.Search3
import Derived.Shelf.Strings.Count
import Derived.Shelf.LaysM
import Derived.Shelf.Strings.Shaped
import Derived.Shelf.Strings.Split
import Derived.Shelf.Strings.SplitShaped
import Derived.Shelf.Unicode.Decode
import Derived.Shelf.Strings.RuneCount
import Derived.Shelf.Strings.Explode
import Derived.Shelf.Unicode.DecodeSlow
import Derived.Shelf.Unicode.DecodeAny
import Derived.Test.Qxb6601974aDoorProg
namespace Go.Proofs
open Go.Shelf
def Tryd.lays195_ren : Go.Shelf.Ren := ⟨fun | 195 => 33 | n => n, fun | 9 => 9 | 3 => 3 | 0 => 0 | 4 => 4 | n => n, fun | n => n⟩
theorem Tryd.lays195 : Go.Proofs.Lays.n195 Tryd.prog Tryd.lays195_ren := {
  mixed := by kernel_rfl
  f195 := Tryd.func33.trans (congrArg some (by kernel_rfl))
  t0 := Tryd.underlying0
  a0 := Tryd.isAgg0
  z0 := Tryd.sizeOf0
  v0 := Tryd.zeroValue0
  t3 := Tryd.underlying3
  a3 := Tryd.isAgg3
  z3 := Tryd.sizeOf3
  v3 := Tryd.zeroValue3
  t4 := Tryd.underlying4
  a4 := Tryd.isAgg4
  z4 := Tryd.sizeOf4
  v4 := Tryd.zeroValue4
  t9 := Tryd.underlying9
  a9 := Tryd.isAgg9
  z9 := Tryd.sizeOf9
  v9 := Tryd.zeroValue9 }
open Go.RowKit in
theorem Tryd.utf8_RuneCountInString (s : ByteArray) (w : World) (hs : s.size < 9223372036854775807) :
    Calls Tryd.prog 33 #[.string s] w fun e w' => e = .returned (.int .i64 (Lib.runeCount s)) ∧ ∃ pos, w' = w.iter s pos := Any.utf8_RuneCountInString Tryd.lays195 s w hs
def Tryd.lays143_ren : Go.Shelf.Ren := ⟨fun | 143 => 23 | 219 => 26 | 217 => 29 | 225 => 30 | 224 => 31 | 267 => 32 | 266 => 36 | 314 => 37 | n => n, fun | 9 => 9 | 3 => 3 | 4 => 4 | 5 => 5 | 46 => 53 | 146 => 58 | 51 => 57 | n => n, fun | 1 => 0 | n => n⟩
theorem Tryd.lays143 : Go.Proofs.Lays.n143 Tryd.prog Tryd.lays143_ren := {
  mixed := by kernel_rfl
  f143 := Tryd.func23.trans (congrArg some (by kernel_rfl))
  f217 := Tryd.func29.trans (congrArg some (by kernel_rfl))
  f219 := Tryd.func26.trans (congrArg some (by kernel_rfl))
  f224 := Tryd.func31.trans (congrArg some (by kernel_rfl))
  f225 := Tryd.func30.trans (congrArg some (by kernel_rfl))
  f266 := Tryd.func36.trans (congrArg some (by kernel_rfl))
  f267 := Tryd.func32.trans (congrArg some (by kernel_rfl))
  f314 := Tryd.func37.trans (congrArg some (by kernel_rfl))
  t3 := Tryd.underlying3
  a3 := Tryd.isAgg3
  z3 := Tryd.sizeOf3
  v3 := Tryd.zeroValue3
  t4 := Tryd.underlying4
  a4 := Tryd.isAgg4
  z4 := Tryd.sizeOf4
  v4 := Tryd.zeroValue4
  t5 := Tryd.underlying5
  a5 := Tryd.isAgg5
  z5 := Tryd.sizeOf5
  v5 := Tryd.zeroValue5
  t9 := Tryd.underlying9
  a9 := Tryd.isAgg9
  z9 := Tryd.sizeOf9
  v9 := Tryd.zeroValue9
  t46 := Tryd.underlying53
  a46 := Tryd.isAgg53
  z46 := Tryd.sizeOf53
  v46 := Tryd.zeroValue53
  t51 := Tryd.underlying57
  a51 := Tryd.isAgg57
  z51 := Tryd.sizeOf57
  v51 := Tryd.zeroValue57
  t146 := Tryd.underlying58
  a146 := Tryd.isAgg58
  z146 := Tryd.sizeOf58
  v146 := Tryd.zeroValue58
  g1 := by kernel_rfl }
open Go.RowKit Go.Lib in
theorem Tryd.strings_Index (s sub : ByteArray) (m : Int) (w : World) (hs : s.size < 4294967281) (hm : w.cell? ⟨0, 0, none⟩ = some (.int .i64 m)) :
    Calls Tryd.prog 23 #[.string s, .string sub] w fun e w' => e = .returned (.int .i64 (Lib.index s.data.toList sub.data.toList)) ∧ w' = w := Any.strings_Index Tryd.lays143 s sub m w hs hm
def Tryd.laysM143_ren : Go.Shelf.Ren := ⟨fun | 143 => 23 | 219 => 26 | 217 => 29 | 225 => 30 | 224 => 31 | 267 => 32 | 266 => 36 | 314 => 37 | n => n, fun | 9 => 9 | 3 => 3 | 4 => 4 | 5 => 5 | 46 => 53 | 146 => 58 | 51 => 57 | n => n, fun | 1 => 0 | n => n⟩
theorem Tryd.laysM143 : Go.Proofs.LaysM.n143 Tryd.prog Tryd.laysM143_ren := {
  mixed := by kernel_rfl
  f143 := Tryd.func23.trans (congrArg some (by kernel_rfl))
  f217 := Tryd.func29.trans (congrArg some (by kernel_rfl))
  f219 := Tryd.func26.trans (congrArg some (by kernel_rfl))
  f224 := Tryd.func31.trans (congrArg some (by kernel_rfl))
  f225 := Tryd.func30.trans (congrArg some (by kernel_rfl))
  f266 := Tryd.func36.trans (congrArg some (by kernel_rfl))
  f267 := Tryd.func32.trans (congrArg some (by kernel_rfl))
  f314 := Tryd.func37.trans (congrArg some (by kernel_rfl))
  t3 := Tryd.underlying3
  a3 := Tryd.isAgg3
  z3 := Tryd.sizeOf3
  v3 := Tryd.zeroValue3
  t4 := Tryd.underlying4
  a4 := Tryd.isAgg4
  z4 := Tryd.sizeOf4
  v4 := Tryd.zeroValue4
  t5 := Tryd.underlying5
  a5 := Tryd.isAgg5
  z5 := Tryd.sizeOf5
  v5 := Tryd.zeroValue5
  t9 := Tryd.underlying9
  a9 := Tryd.isAgg9
  z9 := Tryd.sizeOf9
  v9 := Tryd.zeroValue9
  t46 := Tryd.underlying53
  a46 := Tryd.isAgg53
  z46 := Tryd.sizeOf53
  v46 := Tryd.zeroValue53
  t51 := Tryd.underlying57
  a51 := Tryd.isAgg57
  z51 := Tryd.sizeOf57
  v51 := Tryd.zeroValue57
  t146 := Tryd.underlying58
  a146 := Tryd.isAgg58
  z146 := Tryd.sizeOf58
  v146 := Tryd.zeroValue58
  g1 := by kernel_rfl
  i3 := by kernel_rfl
  i4 := by kernel_rfl
  i5 := by kernel_rfl
  i9 := by kernel_rfl
  i46 := by kernel_rfl
  i51 := by kernel_rfl
  i146 := by kernel_rfl
  m1 := by kernel_rfl
  s1_3 := fun w h => Go.Proofs.cell_of_shapedOpen_int (zero := #[.int .i64 0]) (t := 3) h (of_decide_eq_true (by kernel_rfl)) (by kernel_rfl) rfl (by kernel_rfl) (by kernel_rfl) Tryd.underlying3 }
open Go.RowKit Go.Lib in
theorem Tryd.strings_Index_shaped (s sub : ByteArray) (w : World) (h : w.ShapedOpen Tryd.prog) (hs : s.size < 4294967281) :
    Calls Tryd.prog 23 #[.string s, .string sub] w fun e w' => e = .returned (.int .i64 (Lib.index s.data.toList sub.data.toList)) ∧ w' = w := Any.strings_Index_shaped Tryd.laysM143 s sub w h hs
def Tryd.lays146_ren : Go.Shelf.Ren := ⟨fun | 146 => 20 | 221 => 24 | 268 => 27 | 138 => 28 | 143 => 23 | 195 => 33 | 197 => 34 | 218 => 35 | 219 => 26 | 260 => 38 | 217 => 29 | 225 => 30 | 224 => 31 | 267 => 32 | 266 => 36 | 314 => 37 | n => n, fun | 9 => 9 | 31 => 22 | 3 => 3 | 4 => 4 | 0 => 0 | 105 => 55 | 21 => 21 | 5 => 5 | 46 => 53 | 119 => 60 | 139 => 63 | 138 => 62 | 146 => 58 | 51 => 57 | n => n, fun | 1 => 0 | 3 => 1 | 4 => 2 | n => n⟩
theorem Tryd.lays146 : Go.Proofs.Lays.n146 Tryd.prog Tryd.lays146_ren := {
  mixed := by kernel_rfl
  f138 := Tryd.func28.trans (congrArg some (by kernel_rfl))
  f143 := Tryd.func23.trans (congrArg some (by kernel_rfl))
  f146 := Tryd.func20.trans (congrArg some (by kernel_rfl))
  f195 := Tryd.func33.trans (congrArg some (by kernel_rfl))
  f197 := Tryd.func34.trans (congrArg some (by kernel_rfl))
  f217 := Tryd.func29.trans (congrArg some (by kernel_rfl))
  f218 := Tryd.func35.trans (congrArg some (by kernel_rfl))
  f219 := Tryd.func26.trans (congrArg some (by kernel_rfl))
  f221 := Tryd.func24.trans (congrArg some (by kernel_rfl))
  f224 := Tryd.func31.trans (congrArg some (by kernel_rfl))
  f225 := Tryd.func30.trans (congrArg some (by kernel_rfl))
  f260 := Tryd.func38.trans (congrArg some (by kernel_rfl))
  f266 := Tryd.func36.trans (congrArg some (by kernel_rfl))
  f267 := Tryd.func32.trans (congrArg some (by kernel_rfl))
  f268 := Tryd.func27.trans (congrArg some (by kernel_rfl))
  f314 := Tryd.func37.trans (congrArg some (by kernel_rfl))
  t0 := Tryd.underlying0
  a0 := Tryd.isAgg0
  z0 := Tryd.sizeOf0
  v0 := Tryd.zeroValue0
  t3 := Tryd.underlying3
  a3 := Tryd.isAgg3
  z3 := Tryd.sizeOf3
  v3 := Tryd.zeroValue3
  t4 := Tryd.underlying4
  a4 := Tryd.isAgg4
  z4 := Tryd.sizeOf4
  v4 := Tryd.zeroValue4
  t5 := Tryd.underlying5
  a5 := Tryd.isAgg5
  z5 := Tryd.sizeOf5
  v5 := Tryd.zeroValue5
  t9 := Tryd.underlying9
  a9 := Tryd.isAgg9
  z9 := Tryd.sizeOf9
  v9 := Tryd.zeroValue9
  t21 := Tryd.underlying21
  a21 := Tryd.isAgg21
  z21 := Tryd.sizeOf21
  v21 := Tryd.zeroValue21
  t31 := Tryd.underlying22
  a31 := Tryd.isAgg22
  z31 := Tryd.sizeOf22
  v31 := Tryd.zeroValue22
  t46 := Tryd.underlying53
  a46 := Tryd.isAgg53
  z46 := Tryd.sizeOf53
  v46 := Tryd.zeroValue53
  t51 := Tryd.underlying57
  a51 := Tryd.isAgg57
  z51 := Tryd.sizeOf57
  v51 := Tryd.zeroValue57
  t105 := Tryd.underlying55
  a105 := Tryd.isAgg55
  z105 := Tryd.sizeOf55
  v105 := Tryd.zeroValue55
  t119 := Tryd.underlying60
  a119 := Tryd.isAgg60
  z119 := Tryd.sizeOf60
  t138 := Tryd.underlying62
  a138 := Tryd.isAgg62
  z138 := Tryd.sizeOf62
  v138 := Tryd.zeroValue62
  t139 := Tryd.underlying63
  a139 := Tryd.isAgg63
  z139 := Tryd.sizeOf63
  v139 := Tryd.zeroValue63
  t146 := Tryd.underlying58
  a146 := Tryd.isAgg58
  z146 := Tryd.sizeOf58
  v146 := Tryd.zeroValue58
  g1 := by kernel_rfl
  g3 := by kernel_rfl
  g4 := by kernel_rfl }
open Go.RowKit Go.Lib in
theorem Tryd.strings_Split (s sep : ByteArray) (m : Int) (w : World) (hs : s.size < 4294967281) (hm : w.cell? ⟨0, 0, none⟩ = some (.int .i64 m)) (h1 : 1 ≤ sep.size) :
    Calls Tryd.prog 20 #[.string s, .string sep] w fun e w' =>
      e = .returned (.slice (some ⟨w.heap.size, 0, none⟩) (Lib.countB s sep + 1) (Lib.countB s sep + 1)) ∧ w' = w.alloc (.cells ((Lib.splitB sep 0 (Lib.countB s sep) s).map Value.string).toArray 9) := Any.strings_Split Tryd.lays146 (by kernel_rfl) s sep m w hs hm h1
def Tryd.lays197_ren : Go.Shelf.Ren := ⟨fun | 197 => 34 | 260 => 38 | n => n, fun | 9 => 9 | 21 => 21 | 3 => 3 | 4 => 4 | 5 => 5 | 105 => 55 | 119 => 60 | 0 => 0 | 46 => 53 | 139 => 63 | 138 => 62 | n => n, fun | 3 => 1 | 4 => 2 | n => n⟩
theorem Tryd.lays197 : Go.Proofs.Lays.n197 Tryd.prog Tryd.lays197_ren := {
  mixed := by kernel_rfl
  f197 := Tryd.func34.trans (congrArg some (by kernel_rfl))
  f260 := Tryd.func38.trans (congrArg some (by kernel_rfl))
  t0 := Tryd.underlying0
  a0 := Tryd.isAgg0
  z0 := Tryd.sizeOf0
  v0 := Tryd.zeroValue0
  t3 := Tryd.underlying3
  a3 := Tryd.isAgg3
  z3 := Tryd.sizeOf3
  v3 := Tryd.zeroValue3
  t4 := Tryd.underlying4
  a4 := Tryd.isAgg4
  z4 := Tryd.sizeOf4
  v4 := Tryd.zeroValue4
  t5 := Tryd.underlying5
  a5 := Tryd.isAgg5
  z5 := Tryd.sizeOf5
  v5 := Tryd.zeroValue5
  t9 := Tryd.underlying9
  a9 := Tryd.isAgg9
  z9 := Tryd.sizeOf9
  v9 := Tryd.zeroValue9
  t21 := Tryd.underlying21
  a21 := Tryd.isAgg21
  z21 := Tryd.sizeOf21
  v21 := Tryd.zeroValue21
  t46 := Tryd.underlying53
  a46 := Tryd.isAgg53
  z46 := Tryd.sizeOf53
  v46 := Tryd.zeroValue53
  t105 := Tryd.underlying55
  a105 := Tryd.isAgg55
  z105 := Tryd.sizeOf55
  v105 := Tryd.zeroValue55
  t119 := Tryd.underlying60
  a119 := Tryd.isAgg60
  z119 := Tryd.sizeOf60
  t138 := Tryd.underlying62
  a138 := Tryd.isAgg62
  z138 := Tryd.sizeOf62
  v138 := Tryd.zeroValue62
  t139 := Tryd.underlying63
  a139 := Tryd.isAgg63
  z139 := Tryd.sizeOf63
  v139 := Tryd.zeroValue63
  g3 := by kernel_rfl
  g4 := by kernel_rfl }
open Go.RowKit Go.Lib in
theorem Tryd.utf8_DecodeRuneInString (s : ByteArray) (w : World) (hT : Lib.Utf8Tabs 1 2 w) :
    Calls Tryd.prog 34 #[.string s] w fun e w' => e = .returned (.tuple #[.int .i32 (Lib.decodeGo s).1, .int .i64 (Lib.decodeGo s).2]) ∧ Below w.heap.size w w' := Any.utf8_DecodeRuneInString Tryd.lays197 s w hT
end Go.Proofs
