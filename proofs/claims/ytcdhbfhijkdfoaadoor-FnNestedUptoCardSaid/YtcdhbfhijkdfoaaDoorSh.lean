/-
  The library's own contracts, laid at this program: DecodeRune, RuneLen, ValidRune, Cutover, IsSpace; in plain words: the layings and the applications as the kit's lay-plain.mjs wrote them.
-/
import Derived.Shelf.Small.Utf8
import Derived.Shelf.Strings.Search1
import Derived.Shelf.Unicode.Latin
import Derived.Shelf.Unicode.Is16White
import Derived.Shelf.Unicode.IsSpaceAny
import Derived.Shelf.Spec.DecodeRune
import Derived.Test.YtcdhbfhijkdfoaaDoorProg
namespace Go.Proofs
open Go.Shelf
def Tryd.lays118_ren : Go.Shelf.Ren := ⟨fun | 118 => 48 | n => n, fun | 21 => 21 | 3 => 3 | 4 => 4 | n => n, fun | n => n⟩
theorem Tryd.lays118 : Go.Proofs.Lays.n118 Tryd.prog Tryd.lays118_ren := {
  mixed := by kernel_rfl
  f118 := Tryd.func48.trans (congrArg some (by kernel_rfl))
  t3 := Tryd.underlying3
  a3 := Tryd.isAgg3
  z3 := Tryd.sizeOf3
  v3 := Tryd.zeroValue3
  t4 := Tryd.underlying4
  a4 := Tryd.isAgg4
  z4 := Tryd.sizeOf4
  v4 := Tryd.zeroValue4
  t21 := Tryd.underlying21
  a21 := Tryd.isAgg21
  z21 := Tryd.sizeOf21
  v21 := Tryd.zeroValue21 }
def Tryd.lays119_ren : Go.Shelf.Ren := ⟨fun | 119 => 57 | n => n, fun | 21 => 21 | 4 => 4 | n => n, fun | n => n⟩
theorem Tryd.lays119 : Go.Proofs.Lays.n119 Tryd.prog Tryd.lays119_ren := {
  mixed := by kernel_rfl
  f119 := Tryd.func57.trans (congrArg some (by kernel_rfl))
  t4 := Tryd.underlying4
  a4 := Tryd.isAgg4
  z4 := Tryd.sizeOf4
  v4 := Tryd.zeroValue4
  t21 := Tryd.underlying21
  a21 := Tryd.isAgg21
  z21 := Tryd.sizeOf21
  v21 := Tryd.zeroValue21 }
def Tryd.lays224_ren : Go.Shelf.Ren := ⟨fun | 224 => 63 | n => n, fun | 3 => 3 | n => n, fun | n => n⟩
theorem Tryd.lays224 : Go.Proofs.Lays.n224 Tryd.prog Tryd.lays224_ren := {
  mixed := by kernel_rfl
  f224 := Tryd.func63.trans (congrArg some (by kernel_rfl))
  t3 := Tryd.underlying3
  a3 := Tryd.isAgg3
  z3 := Tryd.sizeOf3
  v3 := Tryd.zeroValue3 }
def Tryd.lays199_ren : Go.Shelf.Ren := ⟨fun | 199 => 51 | 261 => 61 | 311 => 71 | 312 => 72 | n => n, fun | 21 => 21 | 4 => 4 | 51 => 102 | 141 => 104 | 0 => 0 | 196 => 127 | 193 => 124 | 3 => 3 | 198 => 130 | 49 => 128 | 194 => 125 | 201 => 133 | 226 => 141 | 46 => 61 | 227 => 142 | n => n, fun | 6 => 6 | n => n⟩
theorem Tryd.lays199 : Go.Proofs.Lays.n199 Tryd.prog Tryd.lays199_ren := {
  mixed := by kernel_rfl
  f199 := Tryd.func51.trans (congrArg some (by kernel_rfl))
  f261 := Tryd.func61.trans (congrArg some (by kernel_rfl))
  f311 := Tryd.func71.trans (congrArg some (by kernel_rfl))
  f312 := Tryd.func72.trans (congrArg some (by kernel_rfl))
  t0 := Tryd.underlying0
  a0 := Tryd.isAgg0
  z0 := Tryd.sizeOf0
  v0 := Tryd.zeroValue0
  t3 := Tryd.underlying3
  a3 := Tryd.isAgg3
  z3 := Tryd.sizeOf3
  v3 := Tryd.zeroValue3
  t4 := Tryd.underlying4
  a4 := Tryd.isAgg4
  z4 := Tryd.sizeOf4
  v4 := Tryd.zeroValue4
  t21 := Tryd.underlying21
  a21 := Tryd.isAgg21
  z21 := Tryd.sizeOf21
  v21 := Tryd.zeroValue21
  t46 := Tryd.underlying61
  a46 := Tryd.isAgg61
  z46 := Tryd.sizeOf61
  v46 := Tryd.zeroValue61
  t49 := Tryd.underlying128
  a49 := Tryd.isAgg128
  z49 := Tryd.sizeOf128
  v49 := Tryd.zeroValue128
  t51 := Tryd.underlying102
  a51 := Tryd.isAgg102
  z51 := Tryd.sizeOf102
  v51 := Tryd.zeroValue102
  t141 := Tryd.underlying104
  a141 := Tryd.isAgg104
  z141 := Tryd.sizeOf104
  v141 := Tryd.zeroValue104
  t193 := Tryd.underlying124
  a193 := Tryd.isAgg124
  z193 := Tryd.sizeOf124
  v193 := Tryd.zeroValue124
  t194 := Tryd.underlying125
  a194 := Tryd.isAgg125
  z194 := Tryd.sizeOf125
  v194 := Tryd.zeroValue125
  t196 := Tryd.underlying127
  a196 := Tryd.isAgg127
  z196 := Tryd.sizeOf127
  v196 := Tryd.zeroValue127
  t198 := Tryd.underlying130
  a198 := Tryd.isAgg130
  z198 := Tryd.sizeOf130
  v198 := Tryd.zeroValue130
  t201 := Tryd.underlying133
  a201 := Tryd.isAgg133
  z201 := Tryd.sizeOf133
  v201 := Tryd.zeroValue133
  t226 := Tryd.underlying141
  a226 := Tryd.isAgg141
  z226 := Tryd.sizeOf141
  v226 := Tryd.zeroValue141
  t227 := Tryd.underlying142
  a227 := Tryd.isAgg142
  z227 := Tryd.sizeOf142
  v227 := Tryd.zeroValue142
  g6 := by kernel_rfl }
def Tryd.lays7n32_ren : Go.Shelf.Ren := ⟨fun | 32 => 59 | 49 => 70 | n => n, fun | 30 => 62 | 21 => 21 | 3 => 3 | 0 => 0 | 5 => 5 | 4 => 4 | 33 => 99 | 66 => 137 | 25 => 61 | 69 => 140 | 68 => 139 | n => n, fun | 2 => 10 | 3 => 11 | n => n⟩
theorem Tryd.lays7n32 : Go.Proofs.Lays7.n32 Tryd.prog Tryd.lays7n32_ren := {
  mixed := by kernel_rfl
  f32 := Tryd.func59.trans (congrArg some (by kernel_rfl))
  f49 := Tryd.func70.trans (congrArg some (by kernel_rfl))
  t0 := Tryd.underlying0
  a0 := Tryd.isAgg0
  z0 := Tryd.sizeOf0
  v0 := Tryd.zeroValue0
  i0 := by kernel_rfl
  t3 := Tryd.underlying3
  a3 := Tryd.isAgg3
  z3 := Tryd.sizeOf3
  v3 := Tryd.zeroValue3
  i3 := by kernel_rfl
  t4 := Tryd.underlying4
  a4 := Tryd.isAgg4
  z4 := Tryd.sizeOf4
  v4 := Tryd.zeroValue4
  i4 := by kernel_rfl
  t5 := Tryd.underlying5
  a5 := Tryd.isAgg5
  z5 := Tryd.sizeOf5
  v5 := Tryd.zeroValue5
  i5 := by kernel_rfl
  t21 := Tryd.underlying21
  a21 := Tryd.isAgg21
  z21 := Tryd.sizeOf21
  v21 := Tryd.zeroValue21
  i21 := by kernel_rfl
  t25 := Tryd.underlying61
  a25 := Tryd.isAgg61
  z25 := Tryd.sizeOf61
  v25 := Tryd.zeroValue61
  i25 := by kernel_rfl
  t30 := Tryd.underlying62
  a30 := Tryd.isAgg62
  z30 := Tryd.sizeOf62
  v30 := Tryd.zeroValue62
  i30 := by kernel_rfl
  t33 := Tryd.underlying99
  a33 := Tryd.isAgg99
  z33 := Tryd.sizeOf99
  v33 := Tryd.zeroValue99
  i33 := by kernel_rfl
  t66 := Tryd.underlying137
  a66 := Tryd.isAgg137
  z66 := Tryd.sizeOf137
  t68 := Tryd.underlying139
  a68 := Tryd.isAgg139
  z68 := Tryd.sizeOf139
  v68 := Tryd.zeroValue139
  i68 := by kernel_rfl
  t69 := Tryd.underlying140
  a69 := Tryd.isAgg140
  z69 := Tryd.sizeOf140
  v69 := Tryd.zeroValue140
  i69 := by kernel_rfl
  g2 := by kernel_rfl
  g3 := by kernel_rfl }
theorem Tryd.utf8_RuneLen (r : Int) (w : World) :
    Calls Tryd.prog 48 #[.int .i32 r] w fun e w' => e = .returned (.int .i64 (Lib.runeLen r)) ∧ w' = w := Any.utf8_RuneLen Tryd.lays118 r w
theorem Tryd.utf8_ValidRune (r : Int) (w : World) :
    Calls Tryd.prog 57 #[.int .i32 r] w fun e w' => e = .returned (.bool (Lib.validRune r)) ∧ w' = w := Any.utf8_ValidRune Tryd.lays119 r w
theorem Tryd.bytealg_Cutover (n : Int) (h0 : 0 ≤ n) (h1 : n < 4611686018427387904) (w : World) :
    Calls Tryd.prog 63 #[.int .i64 n] w fun e w' => e = .returned (.int .i64 ((n + 16) / 8)) ∧ w' = w := Any.bytealg_Cutover Tryd.lays224 n h0 h1 w
theorem Tryd.unicode_IsSpace_any (r : Int) (w : World) (hlo : -2147483648 ≤ r) (hhi : r ≤ 2147483647) (hW : Lib.WhiteTab 6 w) :
    Calls Tryd.prog 51 #[.int .i32 r] w fun e w' => e = .returned (.bool (Lib.isSpaceZ r)) ∧ RowKit.Below w.heap.size w w' := Any.unicode_IsSpace_any Tryd.lays199 r w hlo hhi hW
theorem Tryd.utf8_DecodeRune (s : ByteArray) (b off cap : Nat) (w : World) (hT : Lib.Utf8Tabs 10 11 w)
    (hp : ∀ j, j < s.size → w.cell? ⟨b, off + j, none⟩ = some (.int .u8 (s.get! j).toNat)) :
    Calls Tryd.prog 59 #[.slice (some ⟨b, off, none⟩) s.size cap] w fun e w' => e = .returned (.tuple #[.int .i32 (Lib.decodeGo s).1, .int .i64 (Lib.decodeGo s).2]) ∧ RowKit.Below w.heap.size w w' :=
  Any7.utf8_DecodeRune Tryd.lays7n32 s b off cap w hT hp
end Go.Proofs
