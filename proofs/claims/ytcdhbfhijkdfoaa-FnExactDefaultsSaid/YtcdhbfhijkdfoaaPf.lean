/-
  Closed facts on the program, each checked by the kernel: where fields lie, which types are plain, which functions have bodies.
-/
import Derived.Test.YtcdhbfhijkdfoaaProg
import Derived.Test.YtcdhbfhijkdfoaaEx
import Derived.KernelRfl
namespace Go.Proofs.Ytcdhbfhijkdfoaa
open Go.EC
theorem mixed : Try.prog.follows .mixedOrders = true := by kernel_rfl
theorem fa23_0 (a : Addr) (w : World) : (Instr.fieldAt 23 (.pointer (some a)) 0).run Try.prog w = .ok (.pointer (some (a.add 0))) w := by kernel_rfl
theorem fa23_1 (a : Addr) (w : World) : (Instr.fieldAt 23 (.pointer (some a)) 1).run Try.prog w = .ok (.pointer (some (a.add 1))) w := by kernel_rfl
theorem fa23_2 (a : Addr) (w : World) : (Instr.fieldAt 23 (.pointer (some a)) 2).run Try.prog w = .ok (.pointer (some (a.add 2))) w := by kernel_rfl
theorem fa23_3 (a : Addr) (w : World) : (Instr.fieldAt 23 (.pointer (some a)) 3).run Try.prog w = .ok (.pointer (some (a.add 3))) w := by kernel_rfl
theorem fa23_4 (a : Addr) (w : World) : (Instr.fieldAt 23 (.pointer (some a)) 4).run Try.prog w = .ok (.pointer (some (a.add 4))) w := by kernel_rfl
theorem fa23_5 (a : Addr) (w : World) : (Instr.fieldAt 23 (.pointer (some a)) 5).run Try.prog w = .ok (.pointer (some (a.add 5))) w := by kernel_rfl
theorem fa37_0 (a : Addr) (w : World) : (Instr.fieldAt 37 (.pointer (some a)) 0).run Try.prog w = .ok (.pointer (some (a.add 0))) w := by kernel_rfl
theorem fa37_1 (a : Addr) (w : World) : (Instr.fieldAt 37 (.pointer (some a)) 1).run Try.prog w = .ok (.pointer (some (a.add 1))) w := by kernel_rfl
theorem fa37_2 (a : Addr) (w : World) : (Instr.fieldAt 37 (.pointer (some a)) 2).run Try.prog w = .ok (.pointer (some (a.add 2))) w := by kernel_rfl
theorem fa37_3 (a : Addr) (w : World) : (Instr.fieldAt 37 (.pointer (some a)) 3).run Try.prog w = .ok (.pointer (some (a.add 3))) w := by kernel_rfl
theorem fa37_4 (a : Addr) (w : World) : (Instr.fieldAt 37 (.pointer (some a)) 4).run Try.prog w = .ok (.pointer (some (a.add 4))) w := by kernel_rfl
theorem fa37_5 (a : Addr) (w : World) : (Instr.fieldAt 37 (.pointer (some a)) 5).run Try.prog w = .ok (.pointer (some (a.add 5))) w := by kernel_rfl
theorem fa48_0 (a : Addr) (w : World) : (Instr.fieldAt 48 (.pointer (some a)) 0).run Try.prog w = .ok (.pointer (some (a.add 0))) w := by kernel_rfl
theorem ld3 (a : Addr) (w : World) (u : Value) (hc : w.cell? a = some u) : (Instr.loadAt 3 (.pointer (some a))).run Try.prog w = .ok u w := loadAt_one Go.Proofs.Try.underlying3 rfl a w u hc
theorem ld4 (a : Addr) (w : World) (u : Value) (hc : w.cell? a = some u) : (Instr.loadAt 4 (.pointer (some a))).run Try.prog w = .ok u w := loadAt_one Go.Proofs.Try.underlying4 rfl a w u hc
theorem ld21 (a : Addr) (w : World) (u : Value) (hc : w.cell? a = some u) : (Instr.loadAt 21 (.pointer (some a))).run Try.prog w = .ok u w := loadAt_one Go.Proofs.Try.underlying21 rfl a w u hc
theorem ld32 (a : Addr) (w : World) (u : Value) (hc : w.cell? a = some u) : (Instr.loadAt 32 (.pointer (some a))).run Try.prog w = .ok u w := loadAt_one Go.Proofs.Try.underlying32 rfl a w u hc
theorem sz3 (w : World) : (sizeOf 3).run Try.prog w = .ok 1 w := by kernel_rfl
theorem sz4 (w : World) : (sizeOf 4).run Try.prog w = .ok 1 w := by kernel_rfl
theorem sz21 (w : World) : (sizeOf 21).run Try.prog w = .ok 1 w := by kernel_rfl
theorem sz32 (w : World) : (sizeOf 32).run Try.prog w = .ok 1 w := by kernel_rfl
theorem cf4 (xs : Array Value) (w : World) : (callFunc 4 xs).run Try.prog w = .ok (.enter 4 xs) w := by kernel_rfl
theorem cf5 (xs : Array Value) (w : World) : (callFunc 5 xs).run Try.prog w = .ok (.enter 5 xs) w := by kernel_rfl
theorem cf6 (xs : Array Value) (w : World) : (callFunc 6 xs).run Try.prog w = .ok (.enter 6 xs) w := by kernel_rfl
theorem cf7 (xs : Array Value) (w : World) : (callFunc 7 xs).run Try.prog w = .ok (.enter 7 xs) w := by kernel_rfl
theorem cf8 (xs : Array Value) (w : World) : (callFunc 8 xs).run Try.prog w = .ok (.enter 8 xs) w := by kernel_rfl
theorem cf9 (xs : Array Value) (w : World) : (callFunc 9 xs).run Try.prog w = .ok (.enter 9 xs) w := by kernel_rfl
theorem cf10 (xs : Array Value) (w : World) : (callFunc 10 xs).run Try.prog w = .ok (.enter 10 xs) w := by kernel_rfl
theorem cf11 (xs : Array Value) (w : World) : (callFunc 11 xs).run Try.prog w = .ok (.enter 11 xs) w := by kernel_rfl
end Go.Proofs.Ytcdhbfhijkdfoaa
