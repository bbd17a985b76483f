/-
  The library's own contracts, laid at this program: DecodeRune, RuneLen, ValidRune, Cutover, IsSpace.
-/
import Derived.Shelf.Lay
import Derived.Shelf.Small.Utf8
import Derived.Shelf.Strings.Search1
import Derived.Shelf.Unicode.Latin
import Derived.Shelf.Unicode.Is16White
import Derived.Shelf.Unicode.IsSpaceAny
import Derived.Shelf.Spec.DecodeRune
import Derived.Test.YtcdhbfhijkdfoaaDoorProg
namespace Go.Proofs
open Go.Shelf
shelf_lay Lays.n118 Nm 118 at Tryd as Tryd.lays118
shelf_lay Lays.n119 Nm 119 at Tryd as Tryd.lays119
shelf_lay Lays.n224 Nm 224 at Tryd as Tryd.lays224
shelf_lay Lays.n199 Nm 199 at Tryd as Tryd.lays199
shelf_lay Lays7.n32 Nm7 32 at Tryd as Tryd.lays7n32
theorem Tryd.utf8_RuneLen (r : Int) (w : World) :
    Calls Tryd.prog 48 #[.int .i32 r] w fun e w' => e = .returned (.int .i64 (Lib.runeLen r)) ∧ w' = w := Any.utf8_RuneLen Tryd.lays118 r w
theorem Tryd.utf8_ValidRune (r : Int) (w : World) :
    Calls Tryd.prog 57 #[.int .i32 r] w fun e w' => e = .returned (.bool (Lib.validRune r)) ∧ w' = w := Any.utf8_ValidRune Tryd.lays119 r w
theorem Tryd.bytealg_Cutover (n : Int) (h0 : 0 ≤ n) (h1 : n < 4611686018427387904) (w : World) :
    Calls Tryd.prog 63 #[.int .i64 n] w fun e w' => e = .returned (.int .i64 ((n + 16) / 8)) ∧ w' = w := Any.bytealg_Cutover Tryd.lays224 n h0 h1 w
theorem Tryd.unicode_IsSpace_any (r : Int) (w : World) (hlo : -2147483648 ≤ r) (hhi : r ≤ 2147483647) (hW : Lib.WhiteTab 6 w) :
    Calls Tryd.prog 51 #[.int .i32 r] w fun e w' => e = .returned (.bool (Lib.isSpaceZ r)) ∧ RowKit.Below w.heap.size w w' := Any.unicode_IsSpace_any Tryd.lays199 r w hlo hhi hW
theorem Tryd.utf8_DecodeRune (s : ByteArray) (b off cap : Nat) (w : World) (hT : Lib.Utf8Tabs 10 11 w)
    (hp : ∀ j, j < s.size → w.cell? ⟨b, off + j, none⟩ = some (.int .u8 (s.get! j).toNat)) :
    Calls Tryd.prog 59 #[.slice (some ⟨b, off, none⟩) s.size cap] w fun e w' => e = .returned (.tuple #[.int .i32 (Lib.decodeGo s).1, .int .i64 (Lib.decodeGo s).2]) ∧ RowKit.Below w.heap.size w w' :=
  Any7.utf8_DecodeRune Tryd.lays7n32 s b off cap w hT hp
end Go.Proofs
