import Derived.Shelf.Strings.Builder1
import Derived.Shelf.Strings.Builder2
import Derived.Shelf.Strings.OnBuilder
import Derived.Shelf.Small.Utf8
import Derived.Shelf.Small.Strs
import Derived.Shelf.Strings.BuilderF
import Derived.Shelf.Strings.Search1
import Derived.Shelf.Strings.Search2
import Derived.Shelf.Strings.Search3
import Derived.Shelf.Strings.Count
import Derived.Shelf.LaysM
import Derived.Shelf.Strings.Shaped
import Derived.Shelf.Strings.Prefix
import Derived.Shelf.Strings.Split
import Derived.Shelf.Strings.SplitShaped
import Derived.Shelf.Unicode.Latin
import Derived.Shelf.Unicode.Decode
import Derived.Shelf.Strings.RuneCount
import Derived.Shelf.Strings.Explode
import Derived.Shelf.Unicode.DecodeSlow
import Derived.Shelf.Unicode.DecodeAny
import Derived.Shelf.Unicode.CaseLookup
import Derived.Shelf.Unicode.CaseConvert
import Derived.Shelf.Unicode.CaseTo
import Derived.Shelf.Unicode.CaseLaid
import Derived.Test.Qxb6601701aDoorProg
namespace Go.Proofs
open Go.Shelf
def Tryd.lays156_ren : Go.Shelf.Ren := ⟨fun | 156 => 33 | 165 => 40 | 166 => 28 | 169 => 30 | 240 => 36 | 241 => 54 | 276 => 46 | 277 => 69 | n => n, fun | 31 => 40 | 9 => 9 | 3 => 3 | 4 => 4 | 0 => 0 | 20 => 20 | 72 => 29 | 76 => 37 | 70 => 27 | 37 => 25 | 75 => 31 | 127 => 50 | 164 => 52 | 5 => 5 | 80 => 39 | n => n, fun | n => n⟩
theorem Tryd.lays156 : Go.Proofs.Lays.n156 Tryd.prog Tryd.lays156_ren := {
  mixed := by kernel_rfl
  f156 := Tryd.func33.trans (congrArg some (by kernel_rfl))
  f165 := Tryd.func40.trans (congrArg some (by kernel_rfl))
  f166 := Tryd.func28.trans (congrArg some (by kernel_rfl))
  f169 := Tryd.func30.trans (congrArg some (by kernel_rfl))
  f240 := Tryd.func36.trans (congrArg some (by kernel_rfl))
  f241 := Tryd.func54.trans (congrArg some (by kernel_rfl))
  f276 := Tryd.func46.trans (congrArg some (by kernel_rfl))
  f277 := Tryd.func69.trans (congrArg some (by kernel_rfl))
  t0 := Tryd.underlying0
  a0 := Tryd.isAgg0
  z0 := Tryd.sizeOf0
  v0 := Tryd.zeroValue0
  t3 := Tryd.underlying3
  a3 := Tryd.isAgg3
  z3 := Tryd.sizeOf3
  v3 := Tryd.zeroValue3
  t4 := Tryd.underlying4
  a4 := Tryd.isAgg4
  z4 := Tryd.sizeOf4
  v4 := Tryd.zeroValue4
  t9 := Tryd.underlying9
  a9 := Tryd.isAgg9
  z9 := Tryd.sizeOf9
  v9 := Tryd.zeroValue9
  t20 := Tryd.underlying20
  a20 := Tryd.isAgg20
  z20 := Tryd.sizeOf20
  v20 := Tryd.zeroValue20
  t31 := Tryd.underlying40
  a31 := Tryd.isAgg40
  z31 := Tryd.sizeOf40
  v31 := Tryd.zeroValue40
  t37 := Tryd.underlying25
  a37 := Tryd.isAgg25
  z37 := Tryd.sizeOf25
  v37 := Tryd.zeroValue25
  t70 := Tryd.underlying27
  a70 := Tryd.isAgg27
  z70 := Tryd.sizeOf27
  v70 := Tryd.zeroValue27
  t72 := Tryd.underlying29
  a72 := Tryd.isAgg29
  z72 := Tryd.sizeOf29
  v72 := Tryd.zeroValue29
  t75 := Tryd.underlying31
  a75 := Tryd.isAgg31
  z75 := Tryd.sizeOf31
  v75 := Tryd.zeroValue31
  t76 := Tryd.underlying37
  a76 := Tryd.isAgg37
  z76 := Tryd.sizeOf37
  v76 := Tryd.zeroValue37
  t127 := Tryd.underlying50
  a127 := Tryd.isAgg50
  z127 := Tryd.sizeOf50
  v127 := Tryd.zeroValue50
  t164 := Tryd.underlying52
  a164 := Tryd.isAgg52
  z164 := Tryd.sizeOf52
  v164 := Tryd.zeroValue52 }
theorem Tryd.Builder_Extra_156 : Builder.Extra Tryd.prog Tryd.lays156_ren := {
  sizeBuilder := by kernel_rfl
  liesBuilder := by kernel_rfl
  t5 := Tryd.underlying5
  a5 := Tryd.isAgg5
  z5 := Tryd.sizeOf5
  v5 := Tryd.zeroValue5
  infoByte := by kernel_rfl
  cellsByte := by kernel_rfl
  sizeByte := by kernel_rfl
  neB5 := by decide }
open Go.RowKit in
theorem Tryd.strings_Join_none (a : Option Addr) (c : Nat) (sep : ByteArray) (w : World) :
    Calls Tryd.prog 33 #[.slice a 0 c, .string sep] w fun e w' => e = .returned (.string ⟨#[]⟩) ∧ w' = w := Any.strings_Join_none Tryd.lays156 Tryd.Builder_Extra_156 a c sep w
open Go.RowKit in
theorem Tryd.strings_Join (bk o c : Nat) (xs : List ByteArray) (sep : ByteArray) (w : World) (hcells : ∀ (j : Nat) x, xs[j]? = some x → w.cell? ⟨bk, o + j, none⟩ = some (.string x)) (hbk : bk < w.heap.size) (hN : xs.length ≤ 140737488355328) (hcap : xs.length ≤ c) (hlen : (Lib.join (xs.map (·.data.toList)) sep.data.toList).length ≤ 140737488355328) :
    Calls Tryd.prog 33 #[.slice (some ⟨bk, o, none⟩) xs.length c, .string sep] w fun e w' => e = .returned (.string ⟨(Lib.join (xs.map (·.data.toList)) sep.data.toList).toArray⟩) ∧ Below w.heap.size w w' := Any.strings_Join Tryd.lays156 Tryd.Builder_Extra_156 bk o c xs sep w hcells hbk hN hcap hlen
def Tryd.lays99_ren : Go.Shelf.Ren := ⟨fun | 99 => 31 | 206 => 43 | n => n, fun | 9 => 9 | 4 => 4 | 3 => 3 | n => n, fun | n => n⟩
theorem Tryd.lays99 : Go.Proofs.Lays.n99 Tryd.prog Tryd.lays99_ren := {
  mixed := by kernel_rfl
  f99 := Tryd.func31.trans (congrArg some (by kernel_rfl))
  f206 := Tryd.func43.trans (congrArg some (by kernel_rfl))
  t3 := Tryd.underlying3
  a3 := Tryd.isAgg3
  z3 := Tryd.sizeOf3
  v3 := Tryd.zeroValue3
  t4 := Tryd.underlying4
  a4 := Tryd.isAgg4
  z4 := Tryd.sizeOf4
  v4 := Tryd.zeroValue4
  t9 := Tryd.underlying9
  a9 := Tryd.isAgg9
  z9 := Tryd.sizeOf9
  v9 := Tryd.zeroValue9 }
open Go.RowKit Go.Lib in
theorem Tryd.strings_HasPrefix (s p : ByteArray) (w : World) :
    Calls Tryd.prog 31 #[.string s, .string p] w fun e w' => e = .returned (.bool (Lib.hasPrefix s.data.toList p.data.toList)) ∧ w' = w := Any.strings_HasPrefix Tryd.lays99 s p w
def Tryd.lays146_ren : Go.Shelf.Ren := ⟨fun | 146 => 32 | 221 => 44 | 268 => 60 | 138 => 61 | 143 => 35 | 195 => 73 | 197 => 55 | 218 => 74 | 219 => 45 | 260 => 70 | 217 => 53 | 225 => 62 | 224 => 63 | 267 => 64 | 266 => 68 | 314 => 75 | n => n, fun | 9 => 9 | 31 => 40 | 3 => 3 | 4 => 4 | 0 => 0 | 105 => 60 | 21 => 21 | 5 => 5 | 46 => 56 | 119 => 84 | 139 => 87 | 138 => 86 | 146 => 79 | 51 => 78 | n => n, fun | 1 => 0 | 3 => 4 | 4 => 5 | n => n⟩
theorem Tryd.lays146 : Go.Proofs.Lays.n146 Tryd.prog Tryd.lays146_ren := {
  mixed := by kernel_rfl
  f138 := Tryd.func61.trans (congrArg some (by kernel_rfl))
  f143 := Tryd.func35.trans (congrArg some (by kernel_rfl))
  f146 := Tryd.func32.trans (congrArg some (by kernel_rfl))
  f195 := Tryd.func73.trans (congrArg some (by kernel_rfl))
  f197 := Tryd.func55.trans (congrArg some (by kernel_rfl))
  f217 := Tryd.func53.trans (congrArg some (by kernel_rfl))
  f218 := Tryd.func74.trans (congrArg some (by kernel_rfl))
  f219 := Tryd.func45.trans (congrArg some (by kernel_rfl))
  f221 := Tryd.func44.trans (congrArg some (by kernel_rfl))
  f224 := Tryd.func63.trans (congrArg some (by kernel_rfl))
  f225 := Tryd.func62.trans (congrArg some (by kernel_rfl))
  f260 := Tryd.func70.trans (congrArg some (by kernel_rfl))
  f266 := Tryd.func68.trans (congrArg some (by kernel_rfl))
  f267 := Tryd.func64.trans (congrArg some (by kernel_rfl))
  f268 := Tryd.func60.trans (congrArg some (by kernel_rfl))
  f314 := Tryd.func75.trans (congrArg some (by kernel_rfl))
  t0 := Tryd.underlying0
  a0 := Tryd.isAgg0
  z0 := Tryd.sizeOf0
  v0 := Tryd.zeroValue0
  t3 := Tryd.underlying3
  a3 := Tryd.isAgg3
  z3 := Tryd.sizeOf3
  v3 := Tryd.zeroValue3
  t4 := Tryd.underlying4
  a4 := Tryd.isAgg4
  z4 := Tryd.sizeOf4
  v4 := Tryd.zeroValue4
  t5 := Tryd.underlying5
  a5 := Tryd.isAgg5
  z5 := Tryd.sizeOf5
  v5 := Tryd.zeroValue5
  t9 := Tryd.underlying9
  a9 := Tryd.isAgg9
  z9 := Tryd.sizeOf9
  v9 := Tryd.zeroValue9
  t21 := Tryd.underlying21
  a21 := Tryd.isAgg21
  z21 := Tryd.sizeOf21
  v21 := Tryd.zeroValue21
  t31 := Tryd.underlying40
  a31 := Tryd.isAgg40
  z31 := Tryd.sizeOf40
  v31 := Tryd.zeroValue40
  t46 := Tryd.underlying56
  a46 := Tryd.isAgg56
  z46 := Tryd.sizeOf56
  v46 := Tryd.zeroValue56
  t51 := Tryd.underlying78
  a51 := Tryd.isAgg78
  z51 := Tryd.sizeOf78
  v51 := Tryd.zeroValue78
  t105 := Tryd.underlying60
  a105 := Tryd.isAgg60
  z105 := Tryd.sizeOf60
  v105 := Tryd.zeroValue60
  t119 := Tryd.underlying84
  a119 := Tryd.isAgg84
  z119 := Tryd.sizeOf84
  t138 := Tryd.underlying86
  a138 := Tryd.isAgg86
  z138 := Tryd.sizeOf86
  v138 := Tryd.zeroValue86
  t139 := Tryd.underlying87
  a139 := Tryd.isAgg87
  z139 := Tryd.sizeOf87
  v139 := Tryd.zeroValue87
  t146 := Tryd.underlying79
  a146 := Tryd.isAgg79
  z146 := Tryd.sizeOf79
  v146 := Tryd.zeroValue79
  g1 := by kernel_rfl
  g3 := by kernel_rfl
  g4 := by kernel_rfl }
open Go.RowKit Go.Lib in
theorem Tryd.strings_Split (s sep : ByteArray) (m : Int) (w : World) (hs : s.size < 4294967281) (hm : w.cell? ⟨0, 0, none⟩ = some (.int .i64 m)) (h1 : 1 ≤ sep.size) :
    Calls Tryd.prog 32 #[.string s, .string sep] w fun e w' =>
      e = .returned (.slice (some ⟨w.heap.size, 0, none⟩) (Lib.countB s sep + 1) (Lib.countB s sep + 1)) ∧ w' = w.alloc (.cells ((Lib.splitB sep 0 (Lib.countB s sep) s).map Value.string).toArray 9) := Any.strings_Split Tryd.lays146 (by kernel_rfl) s sep m w hs hm h1
def Tryd.laysM146_ren : Go.Shelf.Ren := ⟨fun | 146 => 32 | 221 => 44 | 268 => 60 | 138 => 61 | 143 => 35 | 195 => 73 | 197 => 55 | 218 => 74 | 219 => 45 | 260 => 70 | 217 => 53 | 225 => 62 | 224 => 63 | 267 => 64 | 266 => 68 | 314 => 75 | n => n, fun | 9 => 9 | 31 => 40 | 3 => 3 | 4 => 4 | 0 => 0 | 105 => 60 | 21 => 21 | 5 => 5 | 46 => 56 | 119 => 84 | 139 => 87 | 138 => 86 | 146 => 79 | 51 => 78 | n => n, fun | 1 => 0 | 3 => 4 | 4 => 5 | n => n⟩
theorem Tryd.laysM146 : Go.Proofs.LaysM.n146 Tryd.prog Tryd.laysM146_ren := {
  mixed := by kernel_rfl
  f138 := Tryd.func61.trans (congrArg some (by kernel_rfl))
  f143 := Tryd.func35.trans (congrArg some (by kernel_rfl))
  f146 := Tryd.func32.trans (congrArg some (by kernel_rfl))
  f195 := Tryd.func73.trans (congrArg some (by kernel_rfl))
  f197 := Tryd.func55.trans (congrArg some (by kernel_rfl))
  f217 := Tryd.func53.trans (congrArg some (by kernel_rfl))
  f218 := Tryd.func74.trans (congrArg some (by kernel_rfl))
  f219 := Tryd.func45.trans (congrArg some (by kernel_rfl))
  f221 := Tryd.func44.trans (congrArg some (by kernel_rfl))
  f224 := Tryd.func63.trans (congrArg some (by kernel_rfl))
  f225 := Tryd.func62.trans (congrArg some (by kernel_rfl))
  f260 := Tryd.func70.trans (congrArg some (by kernel_rfl))
  f266 := Tryd.func68.trans (congrArg some (by kernel_rfl))
  f267 := Tryd.func64.trans (congrArg some (by kernel_rfl))
  f268 := Tryd.func60.trans (congrArg some (by kernel_rfl))
  f314 := Tryd.func75.trans (congrArg some (by kernel_rfl))
  t0 := Tryd.underlying0
  a0 := Tryd.isAgg0
  z0 := Tryd.sizeOf0
  v0 := Tryd.zeroValue0
  t3 := Tryd.underlying3
  a3 := Tryd.isAgg3
  z3 := Tryd.sizeOf3
  v3 := Tryd.zeroValue3
  t4 := Tryd.underlying4
  a4 := Tryd.isAgg4
  z4 := Tryd.sizeOf4
  v4 := Tryd.zeroValue4
  t5 := Tryd.underlying5
  a5 := Tryd.isAgg5
  z5 := Tryd.sizeOf5
  v5 := Tryd.zeroValue5
  t9 := Tryd.underlying9
  a9 := Tryd.isAgg9
  z9 := Tryd.sizeOf9
  v9 := Tryd.zeroValue9
  t21 := Tryd.underlying21
  a21 := Tryd.isAgg21
  z21 := Tryd.sizeOf21
  v21 := Tryd.zeroValue21
  t31 := Tryd.underlying40
  a31 := Tryd.isAgg40
  z31 := Tryd.sizeOf40
  v31 := Tryd.zeroValue40
  t46 := Tryd.underlying56
  a46 := Tryd.isAgg56
  z46 := Tryd.sizeOf56
  v46 := Tryd.zeroValue56
  t51 := Tryd.underlying78
  a51 := Tryd.isAgg78
  z51 := Tryd.sizeOf78
  v51 := Tryd.zeroValue78
  t105 := Tryd.underlying60
  a105 := Tryd.isAgg60
  z105 := Tryd.sizeOf60
  v105 := Tryd.zeroValue60
  t119 := Tryd.underlying84
  a119 := Tryd.isAgg84
  z119 := Tryd.sizeOf84
  t138 := Tryd.underlying86
  a138 := Tryd.isAgg86
  z138 := Tryd.sizeOf86
  v138 := Tryd.zeroValue86
  t139 := Tryd.underlying87
  a139 := Tryd.isAgg87
  z139 := Tryd.sizeOf87
  v139 := Tryd.zeroValue87
  t146 := Tryd.underlying79
  a146 := Tryd.isAgg79
  z146 := Tryd.sizeOf79
  v146 := Tryd.zeroValue79
  g1 := by kernel_rfl
  g3 := by kernel_rfl
  g4 := by kernel_rfl
  i0 := by kernel_rfl
  i3 := by kernel_rfl
  i4 := by kernel_rfl
  i5 := by kernel_rfl
  i9 := by kernel_rfl
  i21 := by kernel_rfl
  i31 := by kernel_rfl
  i46 := by kernel_rfl
  i51 := by kernel_rfl
  i105 := by kernel_rfl
  i138 := by kernel_rfl
  i139 := by kernel_rfl
  i146 := by kernel_rfl
  m1 := by kernel_rfl
  s1_3 := fun w h => Go.Proofs.cell_of_shapedOpen_int (zero := #[.int .i64 0]) (t := 3) h (of_decide_eq_true (by kernel_rfl)) (by kernel_rfl) rfl (by kernel_rfl) (by kernel_rfl) Tryd.underlying3
  m3 := by kernel_rfl
  m4 := by kernel_rfl }
open Go.RowKit Go.Lib in
theorem Tryd.strings_Split_shaped (s sep : ByteArray) (w : World) (h : w.ShapedOpen Tryd.prog) (hs : s.size < 4294967281) (h1 : 1 ≤ sep.size) :
    Calls Tryd.prog 32 #[.string s, .string sep] w fun e w' =>
      e = .returned (.slice (some ⟨w.heap.size, 0, none⟩) (Lib.countB s sep + 1) (Lib.countB s sep + 1)) ∧ w' = w.alloc (.cells ((Lib.splitB sep 0 (Lib.countB s sep) s).map Value.string).toArray 9) := Any.strings_Split_shaped Tryd.laysM146 s sep w h hs h1
end Go.Proofs
