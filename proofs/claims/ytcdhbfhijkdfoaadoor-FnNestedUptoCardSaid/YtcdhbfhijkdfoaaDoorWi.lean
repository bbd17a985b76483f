/-
  A world in which the rows' listed variables hold what the rows say; and what every law's row asks once its walk is done.
-/
import Derived.Test.YtcdhbfhijkdfoaaDoorLa
import Derived.Test.YtcdhbfhijkdfoaaDoorPo
import Derived.Test.YtcdhbfhijkdfoaaDoorIk
import Derived.Test.YtcdhbfhijkdfoaaDoorCards
import Derived.Test.YtcdhbfhijkdfoaaDoorTie
import Derived.WalkKit
import Derived.ProofKit
import Derived.OpenShut
import Derived.Carry
import Derived.Lib.SmallJoins
import Derived.Deep.DeepHandedRow
import Derived.Deep.DeepWitnessRowRef
import Derived.ShutString
namespace Go.Proofs.YtcdhbfhijkdfoaaDoor
open Go.EC Go.ChangeShapes Go.WideShapes Go.ChangeAt Go.RowKit
open Go.ChangeMaps (open_string shut_string)

theorem own : ownKnob Tryd.prog.godebug = none := by kernel_rfl
theorem laidOut : laidOutB Tryd.prog = true := by kernel_rfl
def txt (d : DataW Unit) : ByteArray := match d with
  | .iface _ (.ptr (.agg [.lit (.string l)])) => ⟨l.toArray⟩
  | _ => ByteArray.empty
/-- The settled world, with the blocks that the listed variables point at. -/
noncomputable def laidWorld (os : Os) : World :=
  let N := (World.settled Tryd.prog os).heap.size
  let es (d : DataW Unit) : Obj := .cells #[.string (txt d)] 170
  let w0 := World.holding Tryd.prog os ⟨#[.cells (Lib.whiteT.map fun (z : Nat) => Value.int .u16 (z : Int)).toArray 130, .cells #[.slice (some ⟨N, 0, none⟩) 7 7, .slice none 0 0, .int .i64 2] 127,
    es Rows.laid_io_EOF, es Rows.laid_encoding_csv_ErrBareQuote, es Rows.laid_encoding_csv_ErrQuote, es Rows.laid_encoding_csv_ErrFieldCount, es Rows.laid_encoding_csv_errInvalidDelim, es Rows.laid_bufio_ErrBufferFull, es Rows.laid_bufio_errNegativeRead, es Rows.laid_io_ErrNoProgress], #[], []⟩
  let put (h : Array Obj) (g : Nat) (cs : Array Value) : Array Obj := h.modify g fun
    | .cells _ t frozen => .cells cs t frozen
    | o => o
  let pe (h : Array Obj) (g k : Nat) : Array Obj := put h g #[.iface 143 (.pointer (some ⟨N + k, 0, none⟩))]
  let h1 := put w0.heap 6 #[.pointer (some ⟨N + 1, 0, none⟩)]
  let h2 := pe (pe (pe (pe (pe (pe (pe (pe h1 0 2) 1 3) 2 4) 3 5) 4 6) 5 7) 8 8) 9 9
  let h3 := put h2 10 (Lib.firstTab.map fun z => Value.int .u8 z).toArray
  let h4 := put h3 11 ((List.range 16).flatMap fun i => [Value.int .u8 (Lib.accLo i), Value.int .u8 (Lib.accHi i)]).toArray
  { w0 with heap := h4 }
set_option maxRecDepth 100000 in
theorem laid_met (os : Os) (args : Array Value) : laidMet Tryd.prog laidL ((laidWorld os).forCall (fun _ _ => 0) ⟨#[], args, []⟩).memory :=
  laidMet_of_run' 10 (by kernel_rfl) (by kernel_rfl)
theorem wit_vars (os : Os) (args : Array Value) : ((laidWorld os).forCall (fun _ _ => 0) ⟨#[], args, []⟩).variablesRefB Tryd.prog = true := by kernel_rfl
end Go.Proofs.YtcdhbfhijkdfoaaDoor
