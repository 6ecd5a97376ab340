import Derived.Shelf.Strings.Builder1
import Derived.Shelf.Strings.Builder2
import Derived.Shelf.Strings.Trim
import Derived.Shelf.Small.Utf8
import Derived.Shelf.Small.Strs
import Derived.Shelf.Small.Wraps
import Derived.Shelf.Strings.BuilderF
import Derived.Shelf.Strings.Search1
import Derived.Shelf.Strings.Search2
import Derived.Shelf.Strings.Cut
import Derived.Shelf.LaysM
import Derived.Shelf.Strings.Shaped
import Derived.Shelf.Strings.Prefix
import Derived.Shelf.Bits.Mul64
import Derived.Shelf.Strings.Repeat
import Derived.Test.Qxb6601590aDoorProg
namespace Go.Proofs
open Go.Shelf
def Tryd.lays170_ren : Go.Shelf.Ren := ⟨fun | 170 => 46 | n => n, fun | 70 => 42 | 3 => 3 | 0 => 0 | 72 => 44 | 37 => 26 | 5 => 5 | n => n, fun | n => n⟩
theorem Tryd.lays170 : Go.Proofs.Lays.n170 Tryd.prog Tryd.lays170_ren := {
  mixed := by kernel_rfl
  f170 := Tryd.func46.trans (congrArg some (by kernel_rfl))
  t0 := Tryd.underlying0
  a0 := Tryd.isAgg0
  z0 := Tryd.sizeOf0
  v0 := Tryd.zeroValue0
  t3 := Tryd.underlying3
  a3 := Tryd.isAgg3
  z3 := Tryd.sizeOf3
  v3 := Tryd.zeroValue3
  t37 := Tryd.underlying26
  a37 := Tryd.isAgg26
  z37 := Tryd.sizeOf26
  v37 := Tryd.zeroValue26
  t70 := Tryd.underlying42
  a70 := Tryd.isAgg42
  z70 := Tryd.sizeOf42
  v70 := Tryd.zeroValue42
  t72 := Tryd.underlying44
  a72 := Tryd.isAgg44
  z72 := Tryd.sizeOf44
  v72 := Tryd.zeroValue44 }
open Go.RowKit in

theorem Tryd.Builder_Len (B b : Nat) (bs : List Value) (w : World) (h : Lib.IsBuilder 44 5 B b bs w) :
    Calls Tryd.prog 46 #[.pointer (some ⟨b, 0, none⟩)] w fun e w' => e = .returned (.int .i64 bs.length) ∧ w' = w := Any.Builder_Len Tryd.lays170 B b bs w h
def Tryd.lays169_ren : Go.Shelf.Ren := ⟨fun | 169 => 28 | n => n, fun | 70 => 42 | 9 => 9 | 0 => 0 | 72 => 44 | 37 => 26 | 127 => 68 | 3 => 3 | 5 => 5 | n => n, fun | n => n⟩
theorem Tryd.lays169 : Go.Proofs.Lays.n169 Tryd.prog Tryd.lays169_ren := {
  mixed := by kernel_rfl
  f169 := Tryd.func28.trans (congrArg some (by kernel_rfl))
  t0 := Tryd.underlying0
  a0 := Tryd.isAgg0
  z0 := Tryd.sizeOf0
  v0 := Tryd.zeroValue0
  t3 := Tryd.underlying3
  a3 := Tryd.isAgg3
  z3 := Tryd.sizeOf3
  v3 := Tryd.zeroValue3
  t9 := Tryd.underlying9
  a9 := Tryd.isAgg9
  z9 := Tryd.sizeOf9
  v9 := Tryd.zeroValue9
  t37 := Tryd.underlying26
  a37 := Tryd.isAgg26
  z37 := Tryd.sizeOf26
  v37 := Tryd.zeroValue26
  t70 := Tryd.underlying42
  a70 := Tryd.isAgg42
  z70 := Tryd.sizeOf42
  v70 := Tryd.zeroValue42
  t72 := Tryd.underlying44
  a72 := Tryd.isAgg44
  z72 := Tryd.sizeOf44
  v72 := Tryd.zeroValue44
  t127 := Tryd.underlying68
  a127 := Tryd.isAgg68
  z127 := Tryd.sizeOf68
  v127 := Tryd.zeroValue68 }
theorem Tryd.Builder_Extra_169 : Builder.Extra Tryd.prog Tryd.lays169_ren := {
  sizeBuilder := by kernel_rfl
  liesBuilder := by kernel_rfl
  t5 := Tryd.underlying5
  a5 := Tryd.isAgg5
  z5 := Tryd.sizeOf5
  v5 := Tryd.zeroValue5
  infoByte := by kernel_rfl
  cellsByte := by kernel_rfl
  sizeByte := by kernel_rfl
  neB5 := by decide }
open Go.RowKit in

theorem Tryd.Builder_String (B b : Nat) (l : List UInt8) (w : World) (h : Lib.IsBuilder 44 5 B b (Lib.byteCells l) w) (h0 : l ≠ []) :
    Calls Tryd.prog 28 #[.pointer (some ⟨b, 0, none⟩)] w fun e w' => e = .returned (.string ⟨l.toArray⟩) ∧ Below B w w' := Any.Builder_String Tryd.lays169 Tryd.Builder_Extra_169 B b l w h h0
open Go.RowKit in

theorem Tryd.Builder_String_empty (B b : Nat) (w : World) (h : Lib.IsBuilder 44 5 B b [] w) (hBw : B ≤ w.heap.size) :
    Calls Tryd.prog 28 #[.pointer (some ⟨b, 0, none⟩)] w fun e w' => e = .returned (.string ⟨#[]⟩) ∧ Below B w w' := Any.Builder_String_empty Tryd.lays169 Tryd.Builder_Extra_169 B b w h hBw
open Go.RowKit in

theorem Tryd.Builder_String_any (B b : Nat) (l : List UInt8) (w : World) (h : Lib.IsBuilder 44 5 B b (Lib.byteCells l) w) (hBw : B ≤ w.heap.size) :
    Calls Tryd.prog 28 #[.pointer (some ⟨b, 0, none⟩)] w fun e w' => e = .returned (.string ⟨l.toArray⟩) ∧ Below B w w' := Any.Builder_String_any Tryd.lays169 Tryd.Builder_Extra_169 B b l w h hBw
def Tryd.lays241_ren : Go.Shelf.Ren := ⟨fun | 241 => 66 | 277 => 79 | n => n, fun | 70 => 42 | 3 => 3 | 0 => 0 | 72 => 44 | 37 => 26 | 5 => 5 | n => n, fun | n => n⟩
theorem Tryd.lays241 : Go.Proofs.Lays.n241 Tryd.prog Tryd.lays241_ren := {
  mixed := by kernel_rfl
  f241 := Tryd.func66.trans (congrArg some (by kernel_rfl))
  f277 := Tryd.func79.trans (congrArg some (by kernel_rfl))
  t0 := Tryd.underlying0
  a0 := Tryd.isAgg0
  z0 := Tryd.sizeOf0
  v0 := Tryd.zeroValue0
  t3 := Tryd.underlying3
  a3 := Tryd.isAgg3
  z3 := Tryd.sizeOf3
  v3 := Tryd.zeroValue3
  t37 := Tryd.underlying26
  a37 := Tryd.isAgg26
  z37 := Tryd.sizeOf26
  v37 := Tryd.zeroValue26
  t70 := Tryd.underlying42
  a70 := Tryd.isAgg42
  z70 := Tryd.sizeOf42
  v70 := Tryd.zeroValue42
  t72 := Tryd.underlying44
  a72 := Tryd.isAgg44
  z72 := Tryd.sizeOf44
  v72 := Tryd.zeroValue44 }
theorem Tryd.Builder_Extra_241 : Builder.Extra Tryd.prog Tryd.lays241_ren := {
  sizeBuilder := by kernel_rfl
  liesBuilder := by kernel_rfl
  t5 := Tryd.underlying5
  a5 := Tryd.isAgg5
  z5 := Tryd.sizeOf5
  v5 := Tryd.zeroValue5
  infoByte := by kernel_rfl
  cellsByte := by kernel_rfl
  sizeByte := by kernel_rfl
  neB5 := by decide }
open Go.RowKit in

theorem Tryd.Builder_grow_fresh (B b n : Nat) (w : World) (hB : B ≤ b) (hbk : w.heap[b]? = some (.cells #[.pointer (some ⟨b, 0, none⟩), .slice none 0 0] 44 (0, 0))) (hBw : B ≤ w.heap.size) (hn : n ≤ 281474976710656) :
    Calls Tryd.prog 66 #[.pointer (some ⟨b, 0, none⟩), .int .i64 n] w fun e w' => e = .returned (.tuple #[]) ∧ (Lib.BuilderAt 44 5 B b (.pointer (some ⟨b, 0, none⟩)) [] w' ∧ Below B w w') := Any.Builder_grow_fresh Tryd.lays241 Tryd.Builder_Extra_241 B b n w hB hbk hBw hn
def Tryd.lays165_ren : Go.Shelf.Ren := ⟨fun | 165 => 45 | 240 => 42 | 241 => 66 | 276 => 63 | 277 => 79 | n => n, fun | 70 => 42 | 3 => 3 | 0 => 0 | 4 => 4 | 9 => 9 | 20 => 20 | 72 => 44 | 37 => 26 | 164 => 83 | 5 => 5 | n => n, fun | n => n⟩
theorem Tryd.lays165 : Go.Proofs.Lays.n165 Tryd.prog Tryd.lays165_ren := {
  mixed := by kernel_rfl
  f165 := Tryd.func45.trans (congrArg some (by kernel_rfl))
  f240 := Tryd.func42.trans (congrArg some (by kernel_rfl))
  f241 := Tryd.func66.trans (congrArg some (by kernel_rfl))
  f276 := Tryd.func63.trans (congrArg some (by kernel_rfl))
  f277 := Tryd.func79.trans (congrArg some (by kernel_rfl))
  t0 := Tryd.underlying0
  a0 := Tryd.isAgg0
  z0 := Tryd.sizeOf0
  v0 := Tryd.zeroValue0
  t3 := Tryd.underlying3
  a3 := Tryd.isAgg3
  z3 := Tryd.sizeOf3
  v3 := Tryd.zeroValue3
  t4 := Tryd.underlying4
  a4 := Tryd.isAgg4
  z4 := Tryd.sizeOf4
  v4 := Tryd.zeroValue4
  t9 := Tryd.underlying9
  a9 := Tryd.isAgg9
  z9 := Tryd.sizeOf9
  v9 := Tryd.zeroValue9
  t20 := Tryd.underlying20
  a20 := Tryd.isAgg20
  z20 := Tryd.sizeOf20
  v20 := Tryd.zeroValue20
  t37 := Tryd.underlying26
  a37 := Tryd.isAgg26
  z37 := Tryd.sizeOf26
  v37 := Tryd.zeroValue26
  t70 := Tryd.underlying42
  a70 := Tryd.isAgg42
  z70 := Tryd.sizeOf42
  v70 := Tryd.zeroValue42
  t72 := Tryd.underlying44
  a72 := Tryd.isAgg44
  z72 := Tryd.sizeOf44
  v72 := Tryd.zeroValue44
  t164 := Tryd.underlying83
  a164 := Tryd.isAgg83
  z164 := Tryd.sizeOf83
  v164 := Tryd.zeroValue83 }
theorem Tryd.Builder_Extra_165 : Builder.Extra Tryd.prog Tryd.lays165_ren := {
  sizeBuilder := by kernel_rfl
  liesBuilder := by kernel_rfl
  t5 := Tryd.underlying5
  a5 := Tryd.isAgg5
  z5 := Tryd.sizeOf5
  v5 := Tryd.zeroValue5
  infoByte := by kernel_rfl
  cellsByte := by kernel_rfl
  sizeByte := by kernel_rfl
  neB5 := by decide }
open Go.RowKit in

theorem Tryd.Builder_Grow_fresh (B b n : Nat) (w : World) (hB : B ≤ b) (hbk : w.heap[b]? = some (.cells #[.pointer none, .slice none 0 0] 44 (0, 0))) (hBw : B ≤ w.heap.size) (hn : n ≤ 281474976710656) :
    Calls Tryd.prog 45 #[.pointer (some ⟨b, 0, none⟩), .int .i64 n] w fun e w' => e = .returned (.tuple #[]) ∧ (Lib.BuilderAt 44 5 B b (.pointer (some ⟨b, 0, none⟩)) [] w' ∧ Below B w w') := Any.Builder_Grow_fresh Tryd.lays165 Tryd.Builder_Extra_165 B b n w hB hbk hBw hn
def Tryd.lays231_ren : Go.Shelf.Ren := ⟨fun | 231 => 35 | n => n, fun | 9 => 9 | 5 => 5 | 3 => 3 | 4 => 4 | n => n, fun | n => n⟩
theorem Tryd.lays231 : Go.Proofs.Lays.n231 Tryd.prog Tryd.lays231_ren := {
  mixed := by kernel_rfl
  f231 := Tryd.func35.trans (congrArg some (by kernel_rfl))
  t3 := Tryd.underlying3
  a3 := Tryd.isAgg3
  z3 := Tryd.sizeOf3
  v3 := Tryd.zeroValue3
  t4 := Tryd.underlying4
  a4 := Tryd.isAgg4
  z4 := Tryd.sizeOf4
  v4 := Tryd.zeroValue4
  t5 := Tryd.underlying5
  a5 := Tryd.isAgg5
  z5 := Tryd.sizeOf5
  v5 := Tryd.zeroValue5
  t9 := Tryd.underlying9
  a9 := Tryd.isAgg9
  z9 := Tryd.sizeOf9
  v9 := Tryd.zeroValue9 }
open Go.RowKit in

theorem Tryd.strings_trimLeftByte (s : ByteArray) (c : UInt8) (w : World) :
    Calls Tryd.prog 35 #[.string s, .int .u8 c.toNat] w fun e w' => e = .returned (.string ⟨(Lib.trimLeftB s.data.toList c).toArray⟩) ∧ w' = w := Any.strings_trimLeftByte Tryd.lays231 s c w
def Tryd.lays232_ren : Go.Shelf.Ren := ⟨fun | 232 => 39 | n => n, fun | 9 => 9 | 5 => 5 | 3 => 3 | 4 => 4 | n => n, fun | n => n⟩
theorem Tryd.lays232 : Go.Proofs.Lays.n232 Tryd.prog Tryd.lays232_ren := {
  mixed := by kernel_rfl
  f232 := Tryd.func39.trans (congrArg some (by kernel_rfl))
  t3 := Tryd.underlying3
  a3 := Tryd.isAgg3
  z3 := Tryd.sizeOf3
  v3 := Tryd.zeroValue3
  t4 := Tryd.underlying4
  a4 := Tryd.isAgg4
  z4 := Tryd.sizeOf4
  v4 := Tryd.zeroValue4
  t5 := Tryd.underlying5
  a5 := Tryd.isAgg5
  z5 := Tryd.sizeOf5
  v5 := Tryd.zeroValue5
  t9 := Tryd.underlying9
  a9 := Tryd.isAgg9
  z9 := Tryd.sizeOf9
  v9 := Tryd.zeroValue9 }
open Go.RowKit in

theorem Tryd.strings_trimRightByte (s : ByteArray) (c : UInt8) (w : World) (hs : s.size ≤ 9223372036854775807) :
    Calls Tryd.prog 39 #[.string s, .int .u8 c.toNat] w fun e w' => e = .returned (.string ⟨(Lib.trimRightB s.data.toList c).toArray⟩) ∧ w' = w := Any.strings_trimRightByte Tryd.lays232 s c w hs
def Tryd.lays161_ren : Go.Shelf.Ren := ⟨fun | 161 => 23 | 231 => 35 | 227 => 36 | 233 => 37 | 235 => 38 | 228 => 60 | 197 => 61 | 151 => 31 | 260 => 77 | 152 => 51 | 137 => 68 | 119 => 69 | 224 => 70 | 225 => 57 | 217 => 75 | 266 => 52 | n => n, fun | 9 => 9 | 4 => 4 | 3 => 3 | 5 => 5 | 117 => 58 | 116 => 57 | 0 => 0 | 124 => 61 | 105 => 79 | 21 => 21 | 119 => 97 | 46 => 62 | 139 => 100 | 138 => 99 | n => n, fun | 3 => 1 | 4 => 2 | n => n⟩
theorem Tryd.lays161 : Go.Proofs.Lays.n161 Tryd.prog Tryd.lays161_ren := {
  mixed := by kernel_rfl
  f119 := Tryd.func69.trans (congrArg some (by kernel_rfl))
  f137 := Tryd.func68.trans (congrArg some (by kernel_rfl))
  f151 := Tryd.func31.trans (congrArg some (by kernel_rfl))
  f152 := Tryd.func51.trans (congrArg some (by kernel_rfl))
  f161 := Tryd.func23.trans (congrArg some (by kernel_rfl))
  f197 := Tryd.func61.trans (congrArg some (by kernel_rfl))
  f217 := Tryd.func75.trans (congrArg some (by kernel_rfl))
  f224 := Tryd.func70.trans (congrArg some (by kernel_rfl))
  f225 := Tryd.func57.trans (congrArg some (by kernel_rfl))
  f227 := Tryd.func36.trans (congrArg some (by kernel_rfl))
  f228 := Tryd.func60.trans (congrArg some (by kernel_rfl))
  f231 := Tryd.func35.trans (congrArg some (by kernel_rfl))
  f233 := Tryd.func37.trans (congrArg some (by kernel_rfl))
  f235 := Tryd.func38.trans (congrArg some (by kernel_rfl))
  f260 := Tryd.func77.trans (congrArg some (by kernel_rfl))
  f266 := Tryd.func52.trans (congrArg some (by kernel_rfl))
  t0 := Tryd.underlying0
  a0 := Tryd.isAgg0
  z0 := Tryd.sizeOf0
  v0 := Tryd.zeroValue0
  t3 := Tryd.underlying3
  a3 := Tryd.isAgg3
  z3 := Tryd.sizeOf3
  v3 := Tryd.zeroValue3
  t4 := Tryd.underlying4
  a4 := Tryd.isAgg4
  z4 := Tryd.sizeOf4
  v4 := Tryd.zeroValue4
  t5 := Tryd.underlying5
  a5 := Tryd.isAgg5
  z5 := Tryd.sizeOf5
  v5 := Tryd.zeroValue5
  t9 := Tryd.underlying9
  a9 := Tryd.isAgg9
  z9 := Tryd.sizeOf9
  v9 := Tryd.zeroValue9
  t21 := Tryd.underlying21
  a21 := Tryd.isAgg21
  z21 := Tryd.sizeOf21
  v21 := Tryd.zeroValue21
  t46 := Tryd.underlying62
  a46 := Tryd.isAgg62
  z46 := Tryd.sizeOf62
  v46 := Tryd.zeroValue62
  t105 := Tryd.underlying79
  a105 := Tryd.isAgg79
  z105 := Tryd.sizeOf79
  v105 := Tryd.zeroValue79
  t116 := Tryd.underlying57
  a116 := Tryd.isAgg57
  z116 := Tryd.sizeOf57
  t117 := Tryd.underlying58
  a117 := Tryd.isAgg58
  z117 := Tryd.sizeOf58
  v117 := Tryd.zeroValue58
  t119 := Tryd.underlying97
  a119 := Tryd.isAgg97
  z119 := Tryd.sizeOf97
  t124 := Tryd.underlying61
  a124 := Tryd.isAgg61
  z124 := Tryd.sizeOf61
  v124 := Tryd.zeroValue61
  t138 := Tryd.underlying99
  a138 := Tryd.isAgg99
  z138 := Tryd.sizeOf99
  v138 := Tryd.zeroValue99
  t139 := Tryd.underlying100
  a139 := Tryd.isAgg100
  z139 := Tryd.sizeOf100
  v139 := Tryd.zeroValue100
  g3 := by kernel_rfl
  g4 := by kernel_rfl }
open Go.RowKit in

theorem Tryd.strings_TrimLeft_one (s : ByteArray) (c : UInt8) (hc : c.toNat < 128) (w : World) :
    Calls Tryd.prog 23 #[.string s, .string ⟨#[c]⟩] w fun e w' => e = .returned (.string ⟨(Lib.trimLeftB s.data.toList c).toArray⟩) ∧ w' = w := Any.strings_TrimLeft_one Tryd.lays161 s c hc w
def Tryd.lays162_ren : Go.Shelf.Ren := ⟨fun | 162 => 24 | 232 => 39 | 227 => 36 | 234 => 40 | 236 => 41 | 228 => 60 | 271 => 62 | 151 => 31 | 120 => 78 | 197 => 61 | 152 => 51 | 260 => 77 | 137 => 68 | 119 => 69 | 224 => 70 | 225 => 57 | 217 => 75 | 266 => 52 | n => n, fun | 9 => 9 | 4 => 4 | 3 => 3 | 5 => 5 | 117 => 58 | 116 => 57 | 0 => 0 | 124 => 61 | 21 => 21 | 105 => 79 | 46 => 62 | 119 => 97 | 139 => 100 | 138 => 99 | n => n, fun | 3 => 1 | 4 => 2 | n => n⟩
theorem Tryd.lays162 : Go.Proofs.Lays.n162 Tryd.prog Tryd.lays162_ren := {
  mixed := by kernel_rfl
  f119 := Tryd.func69.trans (congrArg some (by kernel_rfl))
  f120 := Tryd.func78.trans (congrArg some (by kernel_rfl))
  f137 := Tryd.func68.trans (congrArg some (by kernel_rfl))
  f151 := Tryd.func31.trans (congrArg some (by kernel_rfl))
  f152 := Tryd.func51.trans (congrArg some (by kernel_rfl))
  f162 := Tryd.func24.trans (congrArg some (by kernel_rfl))
  f197 := Tryd.func61.trans (congrArg some (by kernel_rfl))
  f217 := Tryd.func75.trans (congrArg some (by kernel_rfl))
  f224 := Tryd.func70.trans (congrArg some (by kernel_rfl))
  f225 := Tryd.func57.trans (congrArg some (by kernel_rfl))
  f227 := Tryd.func36.trans (congrArg some (by kernel_rfl))
  f228 := Tryd.func60.trans (congrArg some (by kernel_rfl))
  f232 := Tryd.func39.trans (congrArg some (by kernel_rfl))
  f234 := Tryd.func40.trans (congrArg some (by kernel_rfl))
  f236 := Tryd.func41.trans (congrArg some (by kernel_rfl))
  f260 := Tryd.func77.trans (congrArg some (by kernel_rfl))
  f266 := Tryd.func52.trans (congrArg some (by kernel_rfl))
  f271 := Tryd.func62.trans (congrArg some (by kernel_rfl))
  t0 := Tryd.underlying0
  a0 := Tryd.isAgg0
  z0 := Tryd.sizeOf0
  v0 := Tryd.zeroValue0
  t3 := Tryd.underlying3
  a3 := Tryd.isAgg3
  z3 := Tryd.sizeOf3
  v3 := Tryd.zeroValue3
  t4 := Tryd.underlying4
  a4 := Tryd.isAgg4
  z4 := Tryd.sizeOf4
  v4 := Tryd.zeroValue4
  t5 := Tryd.underlying5
  a5 := Tryd.isAgg5
  z5 := Tryd.sizeOf5
  v5 := Tryd.zeroValue5
  t9 := Tryd.underlying9
  a9 := Tryd.isAgg9
  z9 := Tryd.sizeOf9
  v9 := Tryd.zeroValue9
  t21 := Tryd.underlying21
  a21 := Tryd.isAgg21
  z21 := Tryd.sizeOf21
  v21 := Tryd.zeroValue21
  t46 := Tryd.underlying62
  a46 := Tryd.isAgg62
  z46 := Tryd.sizeOf62
  v46 := Tryd.zeroValue62
  t105 := Tryd.underlying79
  a105 := Tryd.isAgg79
  z105 := Tryd.sizeOf79
  v105 := Tryd.zeroValue79
  t116 := Tryd.underlying57
  a116 := Tryd.isAgg57
  z116 := Tryd.sizeOf57
  t117 := Tryd.underlying58
  a117 := Tryd.isAgg58
  z117 := Tryd.sizeOf58
  v117 := Tryd.zeroValue58
  t119 := Tryd.underlying97
  a119 := Tryd.isAgg97
  z119 := Tryd.sizeOf97
  t124 := Tryd.underlying61
  a124 := Tryd.isAgg61
  z124 := Tryd.sizeOf61
  v124 := Tryd.zeroValue61
  t138 := Tryd.underlying99
  a138 := Tryd.isAgg99
  z138 := Tryd.sizeOf99
  v138 := Tryd.zeroValue99
  t139 := Tryd.underlying100
  a139 := Tryd.isAgg100
  z139 := Tryd.sizeOf100
  v139 := Tryd.zeroValue100
  g3 := by kernel_rfl
  g4 := by kernel_rfl }
open Go.RowKit in

theorem Tryd.strings_TrimRight_one (s : ByteArray) (c : UInt8) (hc : c.toNat < 128) (w : World) (hs : s.size ≤ 9223372036854775807) :
    Calls Tryd.prog 24 #[.string s, .string ⟨#[c]⟩] w fun e w' => e = .returned (.string ⟨(Lib.trimRightB s.data.toList c).toArray⟩) ∧ w' = w := Any.strings_TrimRight_one Tryd.lays162 s c hc w hs
def Tryd.lays119_ren : Go.Shelf.Ren := ⟨fun | 119 => 69 | n => n, fun | 21 => 21 | 4 => 4 | n => n, fun | n => n⟩
theorem Tryd.lays119 : Go.Proofs.Lays.n119 Tryd.prog Tryd.lays119_ren := {
  mixed := by kernel_rfl
  f119 := Tryd.func69.trans (congrArg some (by kernel_rfl))
  t4 := Tryd.underlying4
  a4 := Tryd.isAgg4
  z4 := Tryd.sizeOf4
  v4 := Tryd.zeroValue4
  t21 := Tryd.underlying21
  a21 := Tryd.isAgg21
  z21 := Tryd.sizeOf21
  v21 := Tryd.zeroValue21 }

theorem Tryd.utf8_ValidRune (r : Int) (w : World) :
    Calls Tryd.prog 69 #[.int .i32 r] w fun e w' => e = .returned (.bool (Lib.validRune r)) ∧ w' = w := Any.utf8_ValidRune Tryd.lays119 r w
def Tryd.lays120_ren : Go.Shelf.Ren := ⟨fun | 120 => 78 | n => n, fun | 5 => 5 | 4 => 4 | n => n, fun | n => n⟩
theorem Tryd.lays120 : Go.Proofs.Lays.n120 Tryd.prog Tryd.lays120_ren := {
  mixed := by kernel_rfl
  f120 := Tryd.func78.trans (congrArg some (by kernel_rfl))
  t4 := Tryd.underlying4
  a4 := Tryd.isAgg4
  z4 := Tryd.sizeOf4
  v4 := Tryd.zeroValue4
  t5 := Tryd.underlying5
  a5 := Tryd.isAgg5
  z5 := Tryd.sizeOf5
  v5 := Tryd.zeroValue5 }

theorem Tryd.utf8_RuneStart (b : Int) (w : World) (h0 : 0 ≤ b) (h1 : b < 256) :
    Calls Tryd.prog 78 #[.int .u8 b] w fun e w' => e = .returned (.bool (Lib.runeStart b)) ∧ w' = w := Any.utf8_RuneStart Tryd.lays120 b w h0 h1
def Tryd.lays137_ren : Go.Shelf.Ren := ⟨fun | 137 => 68 | 217 => 75 | 266 => 52 | n => n, fun | 9 => 9 | 5 => 5 | 3 => 3 | n => n, fun | n => n⟩
theorem Tryd.lays137 : Go.Proofs.Lays.n137 Tryd.prog Tryd.lays137_ren := {
  mixed := by kernel_rfl
  f137 := Tryd.func68.trans (congrArg some (by kernel_rfl))
  f217 := Tryd.func75.trans (congrArg some (by kernel_rfl))
  f266 := Tryd.func52.trans (congrArg some (by kernel_rfl))
  t3 := Tryd.underlying3
  a3 := Tryd.isAgg3
  z3 := Tryd.sizeOf3
  v3 := Tryd.zeroValue3
  t5 := Tryd.underlying5
  a5 := Tryd.isAgg5
  z5 := Tryd.sizeOf5
  v5 := Tryd.zeroValue5
  t9 := Tryd.underlying9
  a9 := Tryd.isAgg9
  z9 := Tryd.sizeOf9
  v9 := Tryd.zeroValue9 }
open Go.RowKit in

theorem Tryd.strings_IndexByte (s : ByteArray) (c : Int) (w : World) :
    Calls Tryd.prog 68 #[.string s, .int .u8 c] w fun e w' => e = .returned (.int .i64 (Lib.indexByte s.data.toList c.toNat.toUInt8)) ∧ w' = w := Any.strings_IndexByte Tryd.lays137 s c w
def Tryd.lays210_ren : Go.Shelf.Ren := ⟨fun | 210 => 33 | 206 => 58 | n => n, fun | 9 => 9 | 4 => 4 | 3 => 3 | n => n, fun | n => n⟩
theorem Tryd.lays210 : Go.Proofs.Lays.n210 Tryd.prog Tryd.lays210_ren := {
  mixed := by kernel_rfl
  f206 := Tryd.func58.trans (congrArg some (by kernel_rfl))
  f210 := Tryd.func33.trans (congrArg some (by kernel_rfl))
  t3 := Tryd.underlying3
  a3 := Tryd.isAgg3
  z3 := Tryd.sizeOf3
  v3 := Tryd.zeroValue3
  t4 := Tryd.underlying4
  a4 := Tryd.isAgg4
  z4 := Tryd.sizeOf4
  v4 := Tryd.zeroValue4
  t9 := Tryd.underlying9
  a9 := Tryd.isAgg9
  z9 := Tryd.sizeOf9
  v9 := Tryd.zeroValue9 }
open Go.RowKit in

theorem Tryd.stringslite_CutPrefix (s p : ByteArray) (w : World) :
    Calls Tryd.prog 33 #[.string s, .string p] w fun e w' => e = .returned (.tuple #[.string ⟨(Lib.trimPrefix s.data.toList p.data.toList).toArray⟩, .bool (Lib.hasPrefix s.data.toList p.data.toList)]) ∧ w' = w := Any.stringslite_CutPrefix Tryd.lays210 s p w
def Tryd.lays103_ren : Go.Shelf.Ren := ⟨fun | 103 => 20 | 210 => 33 | 206 => 58 | n => n, fun | 9 => 9 | 4 => 4 | 24 => 23 | 3 => 3 | n => n, fun | n => n⟩
theorem Tryd.lays103 : Go.Proofs.Lays.n103 Tryd.prog Tryd.lays103_ren := {
  mixed := by kernel_rfl
  f103 := Tryd.func20.trans (congrArg some (by kernel_rfl))
  f206 := Tryd.func58.trans (congrArg some (by kernel_rfl))
  f210 := Tryd.func33.trans (congrArg some (by kernel_rfl))
  t3 := Tryd.underlying3
  a3 := Tryd.isAgg3
  z3 := Tryd.sizeOf3
  v3 := Tryd.zeroValue3
  t4 := Tryd.underlying4
  a4 := Tryd.isAgg4
  z4 := Tryd.sizeOf4
  v4 := Tryd.zeroValue4
  t9 := Tryd.underlying9
  a9 := Tryd.isAgg9
  z9 := Tryd.sizeOf9
  v9 := Tryd.zeroValue9
  t24 := Tryd.underlying23
  a24 := Tryd.isAgg23
  z24 := Tryd.sizeOf23
  v24 := Tryd.zeroValue23 }
open Go.RowKit in

theorem Tryd.strings_CutPrefix (s p : ByteArray) (w : World) :
    Calls Tryd.prog 20 #[.string s, .string p] w fun e w' => e = .returned (.tuple #[.string ⟨(Lib.trimPrefix s.data.toList p.data.toList).toArray⟩, .bool (Lib.hasPrefix s.data.toList p.data.toList)]) ∧ w' = w := Any.strings_CutPrefix Tryd.lays103 s p w
open Go.RowKit in

theorem Tryd.Builder_Len_f (B b : Nat) (bs : List Value) (w : World) (h : Lib.IsBuilderF 44 5 B b bs w) :
    Calls Tryd.prog 46 #[.pointer (some ⟨b, 0, none⟩)] w fun e w' => e = .returned (.int .i64 bs.length) ∧ w' = w := Any.Builder_Len_f Tryd.lays170 B b bs w h
open Go.RowKit in

theorem Tryd.Builder_String_f (B b : Nat) (l : List UInt8) (w : World) (h : Lib.IsBuilderF 44 5 B b (Lib.byteCells l) w) (h0 : l ≠ []) :
    Calls Tryd.prog 28 #[.pointer (some ⟨b, 0, none⟩)] w fun e w' => e = .returned (.string ⟨l.toArray⟩) ∧ (Lib.IsBuilderF 44 5 B b (Lib.byteCells l) w' ∧ Below B w w') := Any.Builder_String_f Tryd.lays169 Tryd.Builder_Extra_169 B b l w h h0
open Go.RowKit in

theorem Tryd.Builder_String_empty_f (B b : Nat) (w : World) (h : Lib.IsBuilderF 44 5 B b [] w) (hBw : B ≤ w.heap.size) :
    Calls Tryd.prog 28 #[.pointer (some ⟨b, 0, none⟩)] w fun e w' => e = .returned (.string ⟨#[]⟩) ∧ (Lib.IsBuilderF 44 5 B b [] w' ∧ Below B w w') := Any.Builder_String_empty_f Tryd.lays169 Tryd.Builder_Extra_169 B b w h hBw
open Go.RowKit in

theorem Tryd.Builder_String_any_f (B b : Nat) (l : List UInt8) (w : World) (h : Lib.IsBuilderF 44 5 B b (Lib.byteCells l) w) (hBw : B ≤ w.heap.size) :
    Calls Tryd.prog 28 #[.pointer (some ⟨b, 0, none⟩)] w fun e w' => e = .returned (.string ⟨l.toArray⟩) ∧ (Lib.IsBuilderF 44 5 B b (Lib.byteCells l) w' ∧ Below B w w') := Any.Builder_String_any_f Tryd.lays169 Tryd.Builder_Extra_169 B b l w h hBw
def Tryd.lays217_ren : Go.Shelf.Ren := ⟨fun | 217 => 75 | 266 => 52 | n => n, fun | 9 => 9 | 5 => 5 | 3 => 3 | n => n, fun | n => n⟩
theorem Tryd.lays217 : Go.Proofs.Lays.n217 Tryd.prog Tryd.lays217_ren := {
  mixed := by kernel_rfl
  f217 := Tryd.func75.trans (congrArg some (by kernel_rfl))
  f266 := Tryd.func52.trans (congrArg some (by kernel_rfl))
  t3 := Tryd.underlying3
  a3 := Tryd.isAgg3
  z3 := Tryd.sizeOf3
  v3 := Tryd.zeroValue3
  t5 := Tryd.underlying5
  a5 := Tryd.isAgg5
  z5 := Tryd.sizeOf5
  v5 := Tryd.zeroValue5
  t9 := Tryd.underlying9
  a9 := Tryd.isAgg9
  z9 := Tryd.sizeOf9
  v9 := Tryd.zeroValue9 }
open Go.RowKit Go.Lib in

theorem Tryd.stringslite_IndexByte (s : ByteArray) (c : Int) (w : World) :
    Calls Tryd.prog 75 #[.string s, .int .u8 c] w fun e w' => e = .returned (.int .i64 (Lib.indexByte s.data.toList c.toNat.toUInt8)) ∧ w' = w := Any.stringslite_IndexByte Tryd.lays217 s c w
def Tryd.lays224_ren : Go.Shelf.Ren := ⟨fun | 224 => 70 | n => n, fun | 3 => 3 | n => n, fun | n => n⟩
theorem Tryd.lays224 : Go.Proofs.Lays.n224 Tryd.prog Tryd.lays224_ren := {
  mixed := by kernel_rfl
  f224 := Tryd.func70.trans (congrArg some (by kernel_rfl))
  t3 := Tryd.underlying3
  a3 := Tryd.isAgg3
  z3 := Tryd.sizeOf3
  v3 := Tryd.zeroValue3 }
open Go.RowKit Go.Lib in

theorem Tryd.bytealg_Cutover (n : Int) (h0 : 0 ≤ n) (h1 : n < 4611686018427387904) (w : World) :
    Calls Tryd.prog 70 #[.int .i64 n] w fun e w' => e = .returned (.int .i64 ((n + 16) / 8)) ∧ w' = w := Any.bytealg_Cutover Tryd.lays224 n h0 h1 w
def Tryd.lays314_ren : Go.Shelf.Ren := ⟨fun | 314 => 82 | n => n, fun | 9 => 9 | 51 => 85 | 3 => 3 | 4 => 4 | 5 => 5 | 46 => 62 | n => n, fun | n => n⟩
theorem Tryd.lays314 : Go.Proofs.Lays.n314 Tryd.prog Tryd.lays314_ren := {
  mixed := by kernel_rfl
  f314 := Tryd.func82.trans (congrArg some (by kernel_rfl))
  t3 := Tryd.underlying3
  a3 := Tryd.isAgg3
  z3 := Tryd.sizeOf3
  v3 := Tryd.zeroValue3
  t4 := Tryd.underlying4
  a4 := Tryd.isAgg4
  z4 := Tryd.sizeOf4
  v4 := Tryd.zeroValue4
  t5 := Tryd.underlying5
  a5 := Tryd.isAgg5
  z5 := Tryd.sizeOf5
  v5 := Tryd.zeroValue5
  t9 := Tryd.underlying9
  a9 := Tryd.isAgg9
  z9 := Tryd.sizeOf9
  v9 := Tryd.zeroValue9
  t46 := Tryd.underlying62
  a46 := Tryd.isAgg62
  z46 := Tryd.sizeOf62
  v46 := Tryd.zeroValue62
  t51 := Tryd.underlying85
  a51 := Tryd.isAgg85
  z51 := Tryd.sizeOf85
  v51 := Tryd.zeroValue85 }
open Go.RowKit Go.Lib in

theorem Tryd.bytealg_hashStr (sep : ByteArray) (hs : sep.size < 4294967281) (w : World) :
    Calls Tryd.prog 82 #[.string sep] w fun e w' => e = .returned (.tuple #[.int .u32 (RK.H sep.data.toList % 4294967296), .int .u32 (16777619 ^ sep.size % 4294967296)]) ∧ w' = w := Any.bytealg_hashStr Tryd.lays314 sep hs w
def Tryd.lays267_ren : Go.Shelf.Ren := ⟨fun | 267 => 76 | 314 => 82 | n => n, fun | 9 => 9 | 3 => 3 | 146 => 86 | 51 => 85 | 4 => 4 | 5 => 5 | 46 => 62 | n => n, fun | n => n⟩
theorem Tryd.lays267 : Go.Proofs.Lays.n267 Tryd.prog Tryd.lays267_ren := {
  mixed := by kernel_rfl
  f267 := Tryd.func76.trans (congrArg some (by kernel_rfl))
  f314 := Tryd.func82.trans (congrArg some (by kernel_rfl))
  t3 := Tryd.underlying3
  a3 := Tryd.isAgg3
  z3 := Tryd.sizeOf3
  v3 := Tryd.zeroValue3
  t4 := Tryd.underlying4
  a4 := Tryd.isAgg4
  z4 := Tryd.sizeOf4
  v4 := Tryd.zeroValue4
  t5 := Tryd.underlying5
  a5 := Tryd.isAgg5
  z5 := Tryd.sizeOf5
  v5 := Tryd.zeroValue5
  t9 := Tryd.underlying9
  a9 := Tryd.isAgg9
  z9 := Tryd.sizeOf9
  v9 := Tryd.zeroValue9
  t46 := Tryd.underlying62
  a46 := Tryd.isAgg62
  z46 := Tryd.sizeOf62
  v46 := Tryd.zeroValue62
  t51 := Tryd.underlying85
  a51 := Tryd.isAgg85
  z51 := Tryd.sizeOf85
  v51 := Tryd.zeroValue85
  t146 := Tryd.underlying86
  a146 := Tryd.isAgg86
  z146 := Tryd.sizeOf86
  v146 := Tryd.zeroValue86 }
open Go.RowKit Go.Lib in
theorem Tryd.bytealg_IndexRabinKarp (s sep : ByteArray) (h1 : 1 ≤ sep.size) (h2 : sep.size ≤ s.size) (hs : s.size < 4294967281) (w : World) :
    Calls Tryd.prog 76 #[.string s, .string sep] w fun e w' => e = .returned (.int .i64 (Lib.index s.data.toList sep.data.toList)) ∧ w' = w := Any.bytealg_IndexRabinKarp Tryd.lays267 s sep h1 h2 hs w
def Tryd.lays219_ren : Go.Shelf.Ren := ⟨fun | 219 => 59 | 217 => 75 | 225 => 57 | 224 => 70 | 267 => 76 | 266 => 52 | 314 => 82 | n => n, fun | 9 => 9 | 3 => 3 | 4 => 4 | 5 => 5 | 46 => 62 | 146 => 86 | 51 => 85 | n => n, fun | 1 => 0 | n => n⟩
theorem Tryd.lays219 : Go.Proofs.Lays.n219 Tryd.prog Tryd.lays219_ren := {
  mixed := by kernel_rfl
  f217 := Tryd.func75.trans (congrArg some (by kernel_rfl))
  f219 := Tryd.func59.trans (congrArg some (by kernel_rfl))
  f224 := Tryd.func70.trans (congrArg some (by kernel_rfl))
  f225 := Tryd.func57.trans (congrArg some (by kernel_rfl))
  f266 := Tryd.func52.trans (congrArg some (by kernel_rfl))
  f267 := Tryd.func76.trans (congrArg some (by kernel_rfl))
  f314 := Tryd.func82.trans (congrArg some (by kernel_rfl))
  t3 := Tryd.underlying3
  a3 := Tryd.isAgg3
  z3 := Tryd.sizeOf3
  v3 := Tryd.zeroValue3
  t4 := Tryd.underlying4
  a4 := Tryd.isAgg4
  z4 := Tryd.sizeOf4
  v4 := Tryd.zeroValue4
  t5 := Tryd.underlying5
  a5 := Tryd.isAgg5
  z5 := Tryd.sizeOf5
  v5 := Tryd.zeroValue5
  t9 := Tryd.underlying9
  a9 := Tryd.isAgg9
  z9 := Tryd.sizeOf9
  v9 := Tryd.zeroValue9
  t46 := Tryd.underlying62
  a46 := Tryd.isAgg62
  z46 := Tryd.sizeOf62
  v46 := Tryd.zeroValue62
  t51 := Tryd.underlying85
  a51 := Tryd.isAgg85
  z51 := Tryd.sizeOf85
  v51 := Tryd.zeroValue85
  t146 := Tryd.underlying86
  a146 := Tryd.isAgg86
  z146 := Tryd.sizeOf86
  v146 := Tryd.zeroValue86
  g1 := by kernel_rfl }
open Go.RowKit Go.Lib in

theorem Tryd.stringslite_Index_one (s : ByteArray) (c : UInt8) (w : World) :
    Calls Tryd.prog 59 #[.string s, .string ⟨#[c]⟩] w fun e w' => e = .returned (.int .i64 (Lib.indexByte s.data.toList c)) ∧ w' = w := Any.stringslite_Index_one Tryd.lays219 s c w
open Go.RowKit Go.Lib in

theorem Tryd.stringslite_Index (s sub : ByteArray) (m : Int) (w : World) (hs : s.size < 4294967281) (hm : w.cell? ⟨0, 0, none⟩ = some (.int .i64 m)) :
    Calls Tryd.prog 59 #[.string s, .string sub] w fun e w' => e = .returned (.int .i64 (Lib.index s.data.toList sub.data.toList)) ∧ w' = w := Any.stringslite_Index Tryd.lays219 s sub m w hs hm
def Tryd.lays220_ren : Go.Shelf.Ren := ⟨fun | 220 => 34 | 219 => 59 | 217 => 75 | 225 => 57 | 224 => 70 | 267 => 76 | 266 => 52 | 314 => 82 | n => n, fun | 9 => 9 | 4 => 4 | 3 => 3 | 5 => 5 | 46 => 62 | 146 => 86 | 51 => 85 | n => n, fun | 1 => 0 | n => n⟩
theorem Tryd.lays220 : Go.Proofs.Lays.n220 Tryd.prog Tryd.lays220_ren := {
  mixed := by kernel_rfl
  f217 := Tryd.func75.trans (congrArg some (by kernel_rfl))
  f219 := Tryd.func59.trans (congrArg some (by kernel_rfl))
  f220 := Tryd.func34.trans (congrArg some (by kernel_rfl))
  f224 := Tryd.func70.trans (congrArg some (by kernel_rfl))
  f225 := Tryd.func57.trans (congrArg some (by kernel_rfl))
  f266 := Tryd.func52.trans (congrArg some (by kernel_rfl))
  f267 := Tryd.func76.trans (congrArg some (by kernel_rfl))
  f314 := Tryd.func82.trans (congrArg some (by kernel_rfl))
  t3 := Tryd.underlying3
  a3 := Tryd.isAgg3
  z3 := Tryd.sizeOf3
  v3 := Tryd.zeroValue3
  t4 := Tryd.underlying4
  a4 := Tryd.isAgg4
  z4 := Tryd.sizeOf4
  v4 := Tryd.zeroValue4
  t5 := Tryd.underlying5
  a5 := Tryd.isAgg5
  z5 := Tryd.sizeOf5
  v5 := Tryd.zeroValue5
  t9 := Tryd.underlying9
  a9 := Tryd.isAgg9
  z9 := Tryd.sizeOf9
  v9 := Tryd.zeroValue9
  t46 := Tryd.underlying62
  a46 := Tryd.isAgg62
  z46 := Tryd.sizeOf62
  v46 := Tryd.zeroValue62
  t51 := Tryd.underlying85
  a51 := Tryd.isAgg85
  z51 := Tryd.sizeOf85
  v51 := Tryd.zeroValue85
  t146 := Tryd.underlying86
  a146 := Tryd.isAgg86
  z146 := Tryd.sizeOf86
  v146 := Tryd.zeroValue86
  g1 := by kernel_rfl }
open Go.RowKit Go.Lib in

theorem Tryd.stringslite_Cut (s sep : ByteArray) (m : Int) (w : World) (hs : s.size < 4294967281) (hm : w.cell? ⟨0, 0, none⟩ = some (.int .i64 m)) :
    Calls Tryd.prog 34 #[.string s, .string sep] w fun e w' => e = .returned (.tuple #[.string ⟨(Lib.cut s.data.toList sep.data.toList).1.toArray⟩, .string ⟨(Lib.cut s.data.toList sep.data.toList).2.1.toArray⟩, .bool (Lib.cut s.data.toList sep.data.toList).2.2]) ∧ ∃ n, w' = w.drewN n := Any.stringslite_Cut Tryd.lays220 s sep m w hs hm
def Tryd.lays145_ren : Go.Shelf.Ren := ⟨fun | 145 => 21 | 220 => 34 | 219 => 59 | 217 => 75 | 225 => 57 | 224 => 70 | 267 => 76 | 266 => 52 | 314 => 82 | n => n, fun | 9 => 9 | 4 => 4 | 59 => 39 | 3 => 3 | 5 => 5 | 46 => 62 | 146 => 86 | 51 => 85 | n => n, fun | 1 => 0 | n => n⟩
theorem Tryd.lays145 : Go.Proofs.Lays.n145 Tryd.prog Tryd.lays145_ren := {
  mixed := by kernel_rfl
  f145 := Tryd.func21.trans (congrArg some (by kernel_rfl))
  f217 := Tryd.func75.trans (congrArg some (by kernel_rfl))
  f219 := Tryd.func59.trans (congrArg some (by kernel_rfl))
  f220 := Tryd.func34.trans (congrArg some (by kernel_rfl))
  f224 := Tryd.func70.trans (congrArg some (by kernel_rfl))
  f225 := Tryd.func57.trans (congrArg some (by kernel_rfl))
  f266 := Tryd.func52.trans (congrArg some (by kernel_rfl))
  f267 := Tryd.func76.trans (congrArg some (by kernel_rfl))
  f314 := Tryd.func82.trans (congrArg some (by kernel_rfl))
  t3 := Tryd.underlying3
  a3 := Tryd.isAgg3
  z3 := Tryd.sizeOf3
  v3 := Tryd.zeroValue3
  t4 := Tryd.underlying4
  a4 := Tryd.isAgg4
  z4 := Tryd.sizeOf4
  v4 := Tryd.zeroValue4
  t5 := Tryd.underlying5
  a5 := Tryd.isAgg5
  z5 := Tryd.sizeOf5
  v5 := Tryd.zeroValue5
  t9 := Tryd.underlying9
  a9 := Tryd.isAgg9
  z9 := Tryd.sizeOf9
  v9 := Tryd.zeroValue9
  t46 := Tryd.underlying62
  a46 := Tryd.isAgg62
  z46 := Tryd.sizeOf62
  v46 := Tryd.zeroValue62
  t51 := Tryd.underlying85
  a51 := Tryd.isAgg85
  z51 := Tryd.sizeOf85
  v51 := Tryd.zeroValue85
  t59 := Tryd.underlying39
  a59 := Tryd.isAgg39
  z59 := Tryd.sizeOf39
  v59 := Tryd.zeroValue39
  t146 := Tryd.underlying86
  a146 := Tryd.isAgg86
  z146 := Tryd.sizeOf86
  v146 := Tryd.zeroValue86
  g1 := by kernel_rfl }
open Go.RowKit Go.Lib in

theorem Tryd.strings_Cut (s sep : ByteArray) (m : Int) (w : World) (hs : s.size < 4294967281) (hm : w.cell? ⟨0, 0, none⟩ = some (.int .i64 m)) :
    Calls Tryd.prog 21 #[.string s, .string sep] w fun e w' => e = .returned (.tuple #[.string ⟨(Lib.cut s.data.toList sep.data.toList).1.toArray⟩, .string ⟨(Lib.cut s.data.toList sep.data.toList).2.1.toArray⟩, .bool (Lib.cut s.data.toList sep.data.toList).2.2]) ∧ ∃ n, w' = w.drewN n := Any.strings_Cut Tryd.lays145 s sep m w hs hm
def Tryd.laysM219_ren : Go.Shelf.Ren := ⟨fun | 219 => 59 | 217 => 75 | 225 => 57 | 224 => 70 | 267 => 76 | 266 => 52 | 314 => 82 | n => n, fun | 9 => 9 | 3 => 3 | 4 => 4 | 5 => 5 | 46 => 62 | 146 => 86 | 51 => 85 | n => n, fun | 1 => 0 | n => n⟩
theorem Tryd.laysM219 : Go.Proofs.LaysM.n219 Tryd.prog Tryd.laysM219_ren := {
  mixed := by kernel_rfl
  f217 := Tryd.func75.trans (congrArg some (by kernel_rfl))
  f219 := Tryd.func59.trans (congrArg some (by kernel_rfl))
  f224 := Tryd.func70.trans (congrArg some (by kernel_rfl))
  f225 := Tryd.func57.trans (congrArg some (by kernel_rfl))
  f266 := Tryd.func52.trans (congrArg some (by kernel_rfl))
  f267 := Tryd.func76.trans (congrArg some (by kernel_rfl))
  f314 := Tryd.func82.trans (congrArg some (by kernel_rfl))
  t3 := Tryd.underlying3
  a3 := Tryd.isAgg3
  z3 := Tryd.sizeOf3
  v3 := Tryd.zeroValue3
  t4 := Tryd.underlying4
  a4 := Tryd.isAgg4
  z4 := Tryd.sizeOf4
  v4 := Tryd.zeroValue4
  t5 := Tryd.underlying5
  a5 := Tryd.isAgg5
  z5 := Tryd.sizeOf5
  v5 := Tryd.zeroValue5
  t9 := Tryd.underlying9
  a9 := Tryd.isAgg9
  z9 := Tryd.sizeOf9
  v9 := Tryd.zeroValue9
  t46 := Tryd.underlying62
  a46 := Tryd.isAgg62
  z46 := Tryd.sizeOf62
  v46 := Tryd.zeroValue62
  t51 := Tryd.underlying85
  a51 := Tryd.isAgg85
  z51 := Tryd.sizeOf85
  v51 := Tryd.zeroValue85
  t146 := Tryd.underlying86
  a146 := Tryd.isAgg86
  z146 := Tryd.sizeOf86
  v146 := Tryd.zeroValue86
  g1 := by kernel_rfl
  i3 := by kernel_rfl
  i4 := by kernel_rfl
  i5 := by kernel_rfl
  i9 := by kernel_rfl
  i46 := by kernel_rfl
  i51 := by kernel_rfl
  i146 := by kernel_rfl
  m1 := by kernel_rfl
  s1_3 := fun w h => Go.Proofs.cell_of_shapedOpen_int (zero := #[.int .i64 0]) (t := 3) h (of_decide_eq_true (by kernel_rfl)) (by kernel_rfl) rfl (by kernel_rfl) (by kernel_rfl) Tryd.underlying3 }
open Go.RowKit Go.Lib in
theorem Tryd.stringslite_Index_shaped (s sub : ByteArray) (w : World) (h : w.ShapedOpen Tryd.prog) (hs : s.size < 4294967281) :
    Calls Tryd.prog 59 #[.string s, .string sub] w fun e w' => e = .returned (.int .i64 (Lib.index s.data.toList sub.data.toList)) ∧ w' = w := Any.stringslite_Index_shaped Tryd.laysM219 s sub w h hs
def Tryd.laysM220_ren : Go.Shelf.Ren := ⟨fun | 220 => 34 | 219 => 59 | 217 => 75 | 225 => 57 | 224 => 70 | 267 => 76 | 266 => 52 | 314 => 82 | n => n, fun | 9 => 9 | 4 => 4 | 3 => 3 | 5 => 5 | 46 => 62 | 146 => 86 | 51 => 85 | n => n, fun | 1 => 0 | n => n⟩
theorem Tryd.laysM220 : Go.Proofs.LaysM.n220 Tryd.prog Tryd.laysM220_ren := {
  mixed := by kernel_rfl
  f217 := Tryd.func75.trans (congrArg some (by kernel_rfl))
  f219 := Tryd.func59.trans (congrArg some (by kernel_rfl))
  f220 := Tryd.func34.trans (congrArg some (by kernel_rfl))
  f224 := Tryd.func70.trans (congrArg some (by kernel_rfl))
  f225 := Tryd.func57.trans (congrArg some (by kernel_rfl))
  f266 := Tryd.func52.trans (congrArg some (by kernel_rfl))
  f267 := Tryd.func76.trans (congrArg some (by kernel_rfl))
  f314 := Tryd.func82.trans (congrArg some (by kernel_rfl))
  t3 := Tryd.underlying3
  a3 := Tryd.isAgg3
  z3 := Tryd.sizeOf3
  v3 := Tryd.zeroValue3
  t4 := Tryd.underlying4
  a4 := Tryd.isAgg4
  z4 := Tryd.sizeOf4
  v4 := Tryd.zeroValue4
  t5 := Tryd.underlying5
  a5 := Tryd.isAgg5
  z5 := Tryd.sizeOf5
  v5 := Tryd.zeroValue5
  t9 := Tryd.underlying9
  a9 := Tryd.isAgg9
  z9 := Tryd.sizeOf9
  v9 := Tryd.zeroValue9
  t46 := Tryd.underlying62
  a46 := Tryd.isAgg62
  z46 := Tryd.sizeOf62
  v46 := Tryd.zeroValue62
  t51 := Tryd.underlying85
  a51 := Tryd.isAgg85
  z51 := Tryd.sizeOf85
  v51 := Tryd.zeroValue85
  t146 := Tryd.underlying86
  a146 := Tryd.isAgg86
  z146 := Tryd.sizeOf86
  v146 := Tryd.zeroValue86
  g1 := by kernel_rfl
  i3 := by kernel_rfl
  i4 := by kernel_rfl
  i5 := by kernel_rfl
  i9 := by kernel_rfl
  i46 := by kernel_rfl
  i51 := by kernel_rfl
  i146 := by kernel_rfl
  m1 := by kernel_rfl
  s1_3 := fun w h => Go.Proofs.cell_of_shapedOpen_int (zero := #[.int .i64 0]) (t := 3) h (of_decide_eq_true (by kernel_rfl)) (by kernel_rfl) rfl (by kernel_rfl) (by kernel_rfl) Tryd.underlying3 }
open Go.RowKit Go.Lib in
theorem Tryd.stringslite_Cut_shaped (s sep : ByteArray) (w : World) (h : w.ShapedOpen Tryd.prog) (hs : s.size < 4294967281) :
    Calls Tryd.prog 34 #[.string s, .string sep] w fun e w' => e = .returned (.tuple #[.string ⟨(Lib.cut s.data.toList sep.data.toList).1.toArray⟩, .string ⟨(Lib.cut s.data.toList sep.data.toList).2.1.toArray⟩, .bool (Lib.cut s.data.toList sep.data.toList).2.2]) ∧ ∃ n, w' = w.drewN n := Any.stringslite_Cut_shaped Tryd.laysM220 s sep w h hs
def Tryd.laysM145_ren : Go.Shelf.Ren := ⟨fun | 145 => 21 | 220 => 34 | 219 => 59 | 217 => 75 | 225 => 57 | 224 => 70 | 267 => 76 | 266 => 52 | 314 => 82 | n => n, fun | 9 => 9 | 4 => 4 | 59 => 39 | 3 => 3 | 5 => 5 | 46 => 62 | 146 => 86 | 51 => 85 | n => n, fun | 1 => 0 | n => n⟩
theorem Tryd.laysM145 : Go.Proofs.LaysM.n145 Tryd.prog Tryd.laysM145_ren := {
  mixed := by kernel_rfl
  f145 := Tryd.func21.trans (congrArg some (by kernel_rfl))
  f217 := Tryd.func75.trans (congrArg some (by kernel_rfl))
  f219 := Tryd.func59.trans (congrArg some (by kernel_rfl))
  f220 := Tryd.func34.trans (congrArg some (by kernel_rfl))
  f224 := Tryd.func70.trans (congrArg some (by kernel_rfl))
  f225 := Tryd.func57.trans (congrArg some (by kernel_rfl))
  f266 := Tryd.func52.trans (congrArg some (by kernel_rfl))
  f267 := Tryd.func76.trans (congrArg some (by kernel_rfl))
  f314 := Tryd.func82.trans (congrArg some (by kernel_rfl))
  t3 := Tryd.underlying3
  a3 := Tryd.isAgg3
  z3 := Tryd.sizeOf3
  v3 := Tryd.zeroValue3
  t4 := Tryd.underlying4
  a4 := Tryd.isAgg4
  z4 := Tryd.sizeOf4
  v4 := Tryd.zeroValue4
  t5 := Tryd.underlying5
  a5 := Tryd.isAgg5
  z5 := Tryd.sizeOf5
  v5 := Tryd.zeroValue5
  t9 := Tryd.underlying9
  a9 := Tryd.isAgg9
  z9 := Tryd.sizeOf9
  v9 := Tryd.zeroValue9
  t46 := Tryd.underlying62
  a46 := Tryd.isAgg62
  z46 := Tryd.sizeOf62
  v46 := Tryd.zeroValue62
  t51 := Tryd.underlying85
  a51 := Tryd.isAgg85
  z51 := Tryd.sizeOf85
  v51 := Tryd.zeroValue85
  t59 := Tryd.underlying39
  a59 := Tryd.isAgg39
  z59 := Tryd.sizeOf39
  v59 := Tryd.zeroValue39
  t146 := Tryd.underlying86
  a146 := Tryd.isAgg86
  z146 := Tryd.sizeOf86
  v146 := Tryd.zeroValue86
  g1 := by kernel_rfl
  i3 := by kernel_rfl
  i4 := by kernel_rfl
  i5 := by kernel_rfl
  i9 := by kernel_rfl
  i46 := by kernel_rfl
  i51 := by kernel_rfl
  i59 := by kernel_rfl
  i146 := by kernel_rfl
  m1 := by kernel_rfl
  s1_3 := fun w h => Go.Proofs.cell_of_shapedOpen_int (zero := #[.int .i64 0]) (t := 3) h (of_decide_eq_true (by kernel_rfl)) (by kernel_rfl) rfl (by kernel_rfl) (by kernel_rfl) Tryd.underlying3 }
open Go.RowKit Go.Lib in
theorem Tryd.strings_Cut_shaped (s sep : ByteArray) (w : World) (h : w.ShapedOpen Tryd.prog) (hs : s.size < 4294967281) :
    Calls Tryd.prog 21 #[.string s, .string sep] w fun e w' => e = .returned (.tuple #[.string ⟨(Lib.cut s.data.toList sep.data.toList).1.toArray⟩, .string ⟨(Lib.cut s.data.toList sep.data.toList).2.1.toArray⟩, .bool (Lib.cut s.data.toList sep.data.toList).2.2]) ∧ ∃ n, w' = w.drewN n := Any.strings_Cut_shaped Tryd.laysM145 s sep w h hs
def Tryd.lays206_ren : Go.Shelf.Ren := ⟨fun | 206 => 58 | n => n, fun | 9 => 9 | 4 => 4 | 3 => 3 | n => n, fun | n => n⟩
theorem Tryd.lays206 : Go.Proofs.Lays.n206 Tryd.prog Tryd.lays206_ren := {
  mixed := by kernel_rfl
  f206 := Tryd.func58.trans (congrArg some (by kernel_rfl))
  t3 := Tryd.underlying3
  a3 := Tryd.isAgg3
  z3 := Tryd.sizeOf3
  v3 := Tryd.zeroValue3
  t4 := Tryd.underlying4
  a4 := Tryd.isAgg4
  z4 := Tryd.sizeOf4
  v4 := Tryd.zeroValue4
  t9 := Tryd.underlying9
  a9 := Tryd.isAgg9
  z9 := Tryd.sizeOf9
  v9 := Tryd.zeroValue9 }
open Go.RowKit Go.Lib in

theorem Tryd.stringslite_HasPrefix (s p : ByteArray) (w : World) :
    Calls Tryd.prog 58 #[.string s, .string p] w fun e w' => e = .returned (.bool (Lib.hasPrefix s.data.toList p.data.toList)) ∧ w' = w := Any.stringslite_HasPrefix Tryd.lays206 s p w
def Tryd.lays99_ren : Go.Shelf.Ren := ⟨fun | 99 => 44 | 206 => 58 | n => n, fun | 9 => 9 | 4 => 4 | 3 => 3 | n => n, fun | n => n⟩
theorem Tryd.lays99 : Go.Proofs.Lays.n99 Tryd.prog Tryd.lays99_ren := {
  mixed := by kernel_rfl
  f99 := Tryd.func44.trans (congrArg some (by kernel_rfl))
  f206 := Tryd.func58.trans (congrArg some (by kernel_rfl))
  t3 := Tryd.underlying3
  a3 := Tryd.isAgg3
  z3 := Tryd.sizeOf3
  v3 := Tryd.zeroValue3
  t4 := Tryd.underlying4
  a4 := Tryd.isAgg4
  z4 := Tryd.sizeOf4
  v4 := Tryd.zeroValue4
  t9 := Tryd.underlying9
  a9 := Tryd.isAgg9
  z9 := Tryd.sizeOf9
  v9 := Tryd.zeroValue9 }
open Go.RowKit Go.Lib in

theorem Tryd.strings_HasPrefix (s p : ByteArray) (w : World) :
    Calls Tryd.prog 44 #[.string s, .string p] w fun e w' => e = .returned (.bool (Lib.hasPrefix s.data.toList p.data.toList)) ∧ w' = w := Any.strings_HasPrefix Tryd.lays99 s p w
def Tryd.lays264_ren : Go.Shelf.Ren := ⟨fun | 264 => 65 | n => n, fun | 53 => 88 | 46 => 62 | n => n, fun | n => n⟩
theorem Tryd.lays264 : Go.Proofs.Lays.n264 Tryd.prog Tryd.lays264_ren := {
  mixed := by kernel_rfl
  f264 := Tryd.func65.trans (congrArg some (by kernel_rfl))
  t46 := Tryd.underlying62
  a46 := Tryd.isAgg62
  z46 := Tryd.sizeOf62
  v46 := Tryd.zeroValue62
  t53 := Tryd.underlying88
  a53 := Tryd.isAgg88
  z53 := Tryd.sizeOf88
  v53 := Tryd.zeroValue88 }
open Go.RowKit Go.Lib in
theorem Tryd.bits_Mul64 (x y : Nat) (hx : x < 18446744073709551616) (hy : y < 18446744073709551616) (w : World) :
    Calls Tryd.prog 65 #[.int .u64 x, .int .u64 y] w fun e w' => e = .returned (.tuple #[.int .u64 ((x * y / 18446744073709551616 : Nat) : Int), .int .u64 ((x * y % 18446744073709551616 : Nat) : Int)]) ∧ w' = w := Any.bits_Mul64 Tryd.lays264 x y hx hy w
def Tryd.lays212_ren : Go.Shelf.Ren := ⟨fun | 212 => 43 | 263 => 64 | 264 => 65 | n => n, fun | 46 => 62 | 51 => 85 | 146 => 86 | 53 => 88 | 148 => 89 | n => n, fun | n => n⟩
theorem Tryd.lays212 : Go.Proofs.Lays.n212 Tryd.prog Tryd.lays212_ren := {
  mixed := by kernel_rfl
  f212 := Tryd.func43.trans (congrArg some (by kernel_rfl))
  f263 := Tryd.func64.trans (congrArg some (by kernel_rfl))
  f264 := Tryd.func65.trans (congrArg some (by kernel_rfl))
  t46 := Tryd.underlying62
  a46 := Tryd.isAgg62
  z46 := Tryd.sizeOf62
  v46 := Tryd.zeroValue62
  t51 := Tryd.underlying85
  a51 := Tryd.isAgg85
  z51 := Tryd.sizeOf85
  v51 := Tryd.zeroValue85
  t53 := Tryd.underlying88
  a53 := Tryd.isAgg88
  z53 := Tryd.sizeOf88
  v53 := Tryd.zeroValue88
  t146 := Tryd.underlying86
  a146 := Tryd.isAgg86
  z146 := Tryd.sizeOf86
  v146 := Tryd.zeroValue86
  t148 := Tryd.underlying89
  a148 := Tryd.isAgg89
  z148 := Tryd.sizeOf89
  v148 := Tryd.zeroValue89 }
open Go.RowKit Go.Lib in

theorem Tryd.bits_Mul (x y : Nat) (hx : x < 18446744073709551616) (hy : y < 18446744073709551616) (w : World) :
    Calls Tryd.prog 43 #[.int .u64 x, .int .u64 y] w fun e w' => e = .returned (.tuple #[.int .u64 ((x * y / 18446744073709551616 : Nat) : Int), .int .u64 ((x * y % 18446744073709551616 : Nat) : Int)]) ∧ w' = w := Any.bits_Mul Tryd.lays212 x y hx hy w
def Tryd.lays105_ren : Go.Shelf.Ren := ⟨fun | 105 => 27 | 212 => 43 | 99 => 44 | 165 => 45 | 166 => 26 | 170 => 46 | 169 => 28 | 263 => 64 | 264 => 65 | 206 => 58 | 240 => 42 | 241 => 66 | 276 => 63 | 277 => 79 | n => n, fun | 9 => 9 | 3 => 3 | 4 => 4 | 20 => 20 | 0 => 0 | 46 => 62 | 109 => 63 | 5 => 5 | 72 => 44 | 76 => 48 | 51 => 85 | 146 => 86 | 53 => 88 | 148 => 89 | 70 => 42 | 37 => 26 | 75 => 46 | 127 => 68 | 164 => 83 | 80 => 51 | n => n, fun | n => n⟩
theorem Tryd.lays105 : Go.Proofs.Lays.n105 Tryd.prog Tryd.lays105_ren := {
  mixed := by kernel_rfl
  f99 := Tryd.func44.trans (congrArg some (by kernel_rfl))
  f105 := Tryd.func27.trans (congrArg some (by kernel_rfl))
  f165 := Tryd.func45.trans (congrArg some (by kernel_rfl))
  f166 := Tryd.func26.trans (congrArg some (by kernel_rfl))
  f169 := Tryd.func28.trans (congrArg some (by kernel_rfl))
  f170 := Tryd.func46.trans (congrArg some (by kernel_rfl))
  f206 := Tryd.func58.trans (congrArg some (by kernel_rfl))
  f212 := Tryd.func43.trans (congrArg some (by kernel_rfl))
  f240 := Tryd.func42.trans (congrArg some (by kernel_rfl))
  f241 := Tryd.func66.trans (congrArg some (by kernel_rfl))
  f263 := Tryd.func64.trans (congrArg some (by kernel_rfl))
  f264 := Tryd.func65.trans (congrArg some (by kernel_rfl))
  f276 := Tryd.func63.trans (congrArg some (by kernel_rfl))
  f277 := Tryd.func79.trans (congrArg some (by kernel_rfl))
  t0 := Tryd.underlying0
  a0 := Tryd.isAgg0
  z0 := Tryd.sizeOf0
  v0 := Tryd.zeroValue0
  t3 := Tryd.underlying3
  a3 := Tryd.isAgg3
  z3 := Tryd.sizeOf3
  v3 := Tryd.zeroValue3
  t4 := Tryd.underlying4
  a4 := Tryd.isAgg4
  z4 := Tryd.sizeOf4
  v4 := Tryd.zeroValue4
  t5 := Tryd.underlying5
  a5 := Tryd.isAgg5
  z5 := Tryd.sizeOf5
  v5 := Tryd.zeroValue5
  t9 := Tryd.underlying9
  a9 := Tryd.isAgg9
  z9 := Tryd.sizeOf9
  v9 := Tryd.zeroValue9
  t20 := Tryd.underlying20
  a20 := Tryd.isAgg20
  z20 := Tryd.sizeOf20
  v20 := Tryd.zeroValue20
  t37 := Tryd.underlying26
  a37 := Tryd.isAgg26
  z37 := Tryd.sizeOf26
  v37 := Tryd.zeroValue26
  t46 := Tryd.underlying62
  a46 := Tryd.isAgg62
  z46 := Tryd.sizeOf62
  v46 := Tryd.zeroValue62
  t51 := Tryd.underlying85
  a51 := Tryd.isAgg85
  z51 := Tryd.sizeOf85
  v51 := Tryd.zeroValue85
  t53 := Tryd.underlying88
  a53 := Tryd.isAgg88
  z53 := Tryd.sizeOf88
  v53 := Tryd.zeroValue88
  t70 := Tryd.underlying42
  a70 := Tryd.isAgg42
  z70 := Tryd.sizeOf42
  v70 := Tryd.zeroValue42
  t72 := Tryd.underlying44
  a72 := Tryd.isAgg44
  z72 := Tryd.sizeOf44
  v72 := Tryd.zeroValue44
  t75 := Tryd.underlying46
  a75 := Tryd.isAgg46
  z75 := Tryd.sizeOf46
  v75 := Tryd.zeroValue46
  t76 := Tryd.underlying48
  a76 := Tryd.isAgg48
  z76 := Tryd.sizeOf48
  v76 := Tryd.zeroValue48
  t109 := Tryd.underlying63
  a109 := Tryd.isAgg63
  z109 := Tryd.sizeOf63
  v109 := Tryd.zeroValue63
  t127 := Tryd.underlying68
  a127 := Tryd.isAgg68
  z127 := Tryd.sizeOf68
  v127 := Tryd.zeroValue68
  t146 := Tryd.underlying86
  a146 := Tryd.isAgg86
  z146 := Tryd.sizeOf86
  v146 := Tryd.zeroValue86
  t148 := Tryd.underlying89
  a148 := Tryd.isAgg89
  z148 := Tryd.sizeOf89
  v148 := Tryd.zeroValue89
  t164 := Tryd.underlying83
  a164 := Tryd.isAgg83
  z164 := Tryd.sizeOf83
  v164 := Tryd.zeroValue83 }
theorem Tryd.Builder_Extra_105 : Builder.Extra Tryd.prog Tryd.lays105_ren := {
  sizeBuilder := by kernel_rfl
  liesBuilder := by kernel_rfl
  t5 := Tryd.underlying5
  a5 := Tryd.isAgg5
  z5 := Tryd.sizeOf5
  v5 := Tryd.zeroValue5
  infoByte := by kernel_rfl
  cellsByte := by kernel_rfl
  sizeByte := by kernel_rfl
  neB5 := by decide }
open Go.RowKit Go.Lib in

theorem Tryd.strings_Repeat_main (s : ByteArray) (c : Nat) (w : World) (hc2 : 2 ≤ c) (hc : c ≤ 9223372036854775807) (hlen : s.size * c ≤ 140737488355328) (h0 : 0 < s.size) :
    Calls Tryd.prog 27 #[.string s, .int .i64 c] w fun e w' => e = .returned (.string ⟨(Lib.repeatL s.data.toList c).toArray⟩) ∧ Below w.heap.size w w' := Any.strings_Repeat_main Tryd.lays105 Tryd.Builder_Extra_105 s c w hc2 hc hlen h0
open Go.RowKit Go.Lib in
theorem Tryd.strings_Repeat_zero (s : ByteArray) (w : World) :
    Calls Tryd.prog 27 #[.string s, .int .i64 0] w fun e w' => e = .returned (.string ⟨#[]⟩) ∧ w' = w := Any.strings_Repeat_zero Tryd.lays105 s w
open Go.RowKit Go.Lib in
theorem Tryd.strings_Repeat_one (s : ByteArray) (w : World) :
    Calls Tryd.prog 27 #[.string s, .int .i64 1] w fun e w' => e = .returned (.string s) ∧ w' = w := Any.strings_Repeat_one Tryd.lays105 s w
open Go.RowKit Go.Lib in

theorem Tryd.strings_Repeat_empty (s : ByteArray) (c : Nat) (w : World) (hc2 : 2 ≤ c) (hc : c ≤ 9223372036854775807) (h0 : s.size = 0) :
    Calls Tryd.prog 27 #[.string s, .int .i64 c] w fun e w' => e = .returned (.string ⟨#[]⟩) ∧ w' = w := Any.strings_Repeat_empty Tryd.lays105 s c w hc2 hc h0
open Go.RowKit Go.Lib in

theorem Tryd.strings_Repeat (s : ByteArray) (c : Nat) (w : World) (hc : c ≤ 9223372036854775807) (hlen : s.size * c ≤ 140737488355328) :
    Calls Tryd.prog 27 #[.string s, .int .i64 c] w fun e w' => e = .returned (.string ⟨(Lib.repeatL s.data.toList c).toArray⟩) ∧ Below w.heap.size w w' := Any.strings_Repeat Tryd.lays105 Tryd.Builder_Extra_105 s c w hc hlen
end Go.Proofs
