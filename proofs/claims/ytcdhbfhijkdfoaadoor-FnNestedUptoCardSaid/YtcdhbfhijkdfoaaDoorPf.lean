/-
  Closed facts on the program, each checked by the kernel: where fields lie, which types are plain, which functions have bodies.
-/
import Derived.Test.YtcdhbfhijkdfoaaDoorProg
import Derived.Test.YtcdhbfhijkdfoaaDoorEx
import Derived.KernelRfl
namespace Go.Proofs.YtcdhbfhijkdfoaaDoor
open Go.EC
theorem mixed : Tryd.prog.follows .mixedOrders = true := by kernel_rfl
theorem fa23_0 (a : Addr) (w : World) : (Instr.fieldAt 23 (.pointer (some a)) 0).run Tryd.prog w = .ok (.pointer (some (a.add 0))) w := by kernel_rfl
theorem fa23_1 (a : Addr) (w : World) : (Instr.fieldAt 23 (.pointer (some a)) 1).run Tryd.prog w = .ok (.pointer (some (a.add 1))) w := by kernel_rfl
theorem fa23_2 (a : Addr) (w : World) : (Instr.fieldAt 23 (.pointer (some a)) 2).run Tryd.prog w = .ok (.pointer (some (a.add 2))) w := by kernel_rfl
theorem fa23_3 (a : Addr) (w : World) : (Instr.fieldAt 23 (.pointer (some a)) 3).run Tryd.prog w = .ok (.pointer (some (a.add 3))) w := by kernel_rfl
theorem fa23_4 (a : Addr) (w : World) : (Instr.fieldAt 23 (.pointer (some a)) 4).run Tryd.prog w = .ok (.pointer (some (a.add 4))) w := by kernel_rfl
theorem fa23_5 (a : Addr) (w : World) : (Instr.fieldAt 23 (.pointer (some a)) 5).run Tryd.prog w = .ok (.pointer (some (a.add 5))) w := by kernel_rfl
theorem fa71_0 (a : Addr) (w : World) : (Instr.fieldAt 71 (.pointer (some a)) 0).run Tryd.prog w = .ok (.pointer (some (a.add 0))) w := by kernel_rfl
theorem fa71_1 (a : Addr) (w : World) : (Instr.fieldAt 71 (.pointer (some a)) 1).run Tryd.prog w = .ok (.pointer (some (a.add 1))) w := by kernel_rfl
theorem fa71_2 (a : Addr) (w : World) : (Instr.fieldAt 71 (.pointer (some a)) 2).run Tryd.prog w = .ok (.pointer (some (a.add 2))) w := by kernel_rfl
theorem fa71_3 (a : Addr) (w : World) : (Instr.fieldAt 71 (.pointer (some a)) 3).run Tryd.prog w = .ok (.pointer (some (a.add 3))) w := by kernel_rfl
theorem fa71_4 (a : Addr) (w : World) : (Instr.fieldAt 71 (.pointer (some a)) 4).run Tryd.prog w = .ok (.pointer (some (a.add 4))) w := by kernel_rfl
theorem fa71_5 (a : Addr) (w : World) : (Instr.fieldAt 71 (.pointer (some a)) 5).run Tryd.prog w = .ok (.pointer (some (a.add 5))) w := by kernel_rfl
theorem fa71_7 (a : Addr) (w : World) : (Instr.fieldAt 71 (.pointer (some a)) 7).run Tryd.prog w = .ok (.pointer (some (a.add 7))) w := by kernel_rfl
theorem fa71_8 (a : Addr) (w : World) : (Instr.fieldAt 71 (.pointer (some a)) 8).run Tryd.prog w = .ok (.pointer (some (a.add 8))) w := by kernel_rfl
theorem fa71_9 (a : Addr) (w : World) : (Instr.fieldAt 71 (.pointer (some a)) 9).run Tryd.prog w = .ok (.pointer (some (a.add 9))) w := by kernel_rfl
theorem fa71_10 (a : Addr) (w : World) : (Instr.fieldAt 71 (.pointer (some a)) 10).run Tryd.prog w = .ok (.pointer (some (a.add 10))) w := by kernel_rfl
theorem fa71_11 (a : Addr) (w : World) : (Instr.fieldAt 71 (.pointer (some a)) 11).run Tryd.prog w = .ok (.pointer (some (a.add 11))) w := by kernel_rfl
theorem fa71_12 (a : Addr) (w : World) : (Instr.fieldAt 71 (.pointer (some a)) 12).run Tryd.prog w = .ok (.pointer (some (a.add 12))) w := by kernel_rfl
theorem fa71_13 (a : Addr) (w : World) : (Instr.fieldAt 71 (.pointer (some a)) 13).run Tryd.prog w = .ok (.pointer (some (a.add 13))) w := by kernel_rfl
theorem fa71_14 (a : Addr) (w : World) : (Instr.fieldAt 71 (.pointer (some a)) 14).run Tryd.prog w = .ok (.pointer (some (a.add 14))) w := by kernel_rfl
theorem fa78_0 (a : Addr) (w : World) : (Instr.fieldAt 78 (.pointer (some a)) 0).run Tryd.prog w = .ok (.pointer (some (a.add 0))) w := by kernel_rfl
theorem fa78_1 (a : Addr) (w : World) : (Instr.fieldAt 78 (.pointer (some a)) 1).run Tryd.prog w = .ok (.pointer (some (a.add 1))) w := by kernel_rfl
theorem fa78_2 (a : Addr) (w : World) : (Instr.fieldAt 78 (.pointer (some a)) 2).run Tryd.prog w = .ok (.pointer (some (a.add 2))) w := by kernel_rfl
theorem fa85_0 (a : Addr) (w : World) : (Instr.fieldAt 85 (.pointer (some a)) 0).run Tryd.prog w = .ok (.pointer (some (a.add 0))) w := by kernel_rfl
theorem fa85_1 (a : Addr) (w : World) : (Instr.fieldAt 85 (.pointer (some a)) 1).run Tryd.prog w = .ok (.pointer (some (a.add 1))) w := by kernel_rfl
theorem fa91_3 (a : Addr) (w : World) : (Instr.fieldAt 91 (.pointer (some a)) 3).run Tryd.prog w = .ok (.pointer (some (a.add 3))) w := by kernel_rfl
theorem fa121_0 (a : Addr) (w : World) : (Instr.fieldAt 121 (.pointer (some a)) 0).run Tryd.prog w = .ok (.pointer (some (a.add 0))) w := by kernel_rfl
theorem fa121_1 (a : Addr) (w : World) : (Instr.fieldAt 121 (.pointer (some a)) 1).run Tryd.prog w = .ok (.pointer (some (a.add 1))) w := by kernel_rfl
theorem fa121_2 (a : Addr) (w : World) : (Instr.fieldAt 121 (.pointer (some a)) 2).run Tryd.prog w = .ok (.pointer (some (a.add 2))) w := by kernel_rfl
theorem fa121_3 (a : Addr) (w : World) : (Instr.fieldAt 121 (.pointer (some a)) 3).run Tryd.prog w = .ok (.pointer (some (a.add 3))) w := by kernel_rfl
theorem fa121_4 (a : Addr) (w : World) : (Instr.fieldAt 121 (.pointer (some a)) 4).run Tryd.prog w = .ok (.pointer (some (a.add 4))) w := by kernel_rfl
theorem fa121_5 (a : Addr) (w : World) : (Instr.fieldAt 121 (.pointer (some a)) 5).run Tryd.prog w = .ok (.pointer (some (a.add 5))) w := by kernel_rfl
theorem fa121_6 (a : Addr) (w : World) : (Instr.fieldAt 121 (.pointer (some a)) 6).run Tryd.prog w = .ok (.pointer (some (a.add 6))) w := by kernel_rfl
theorem fa127_0 (a : Addr) (w : World) : (Instr.fieldAt 127 (.pointer (some a)) 0).run Tryd.prog w = .ok (.pointer (some (a.add 0))) w := by kernel_rfl
theorem fa127_1 (a : Addr) (w : World) : (Instr.fieldAt 127 (.pointer (some a)) 1).run Tryd.prog w = .ok (.pointer (some (a.add 1))) w := by kernel_rfl
theorem fa127_2 (a : Addr) (w : World) : (Instr.fieldAt 127 (.pointer (some a)) 2).run Tryd.prog w = .ok (.pointer (some (a.add 2))) w := by kernel_rfl
theorem fa130_0 (a : Addr) (w : World) : (Instr.fieldAt 130 (.pointer (some a)) 0).run Tryd.prog w = .ok (.pointer (some (a.add 0))) w := by kernel_rfl
theorem fa130_1 (a : Addr) (w : World) : (Instr.fieldAt 130 (.pointer (some a)) 1).run Tryd.prog w = .ok (.pointer (some (a.add 1))) w := by kernel_rfl
theorem fa130_2 (a : Addr) (w : World) : (Instr.fieldAt 130 (.pointer (some a)) 2).run Tryd.prog w = .ok (.pointer (some (a.add 2))) w := by kernel_rfl
theorem fa133_0 (a : Addr) (w : World) : (Instr.fieldAt 133 (.pointer (some a)) 0).run Tryd.prog w = .ok (.pointer (some (a.add 0))) w := by kernel_rfl
theorem fa133_1 (a : Addr) (w : World) : (Instr.fieldAt 133 (.pointer (some a)) 1).run Tryd.prog w = .ok (.pointer (some (a.add 1))) w := by kernel_rfl
theorem fa133_2 (a : Addr) (w : World) : (Instr.fieldAt 133 (.pointer (some a)) 2).run Tryd.prog w = .ok (.pointer (some (a.add 2))) w := by kernel_rfl
theorem fa139_0 (a : Addr) (w : World) : (Instr.fieldAt 139 (.pointer (some a)) 0).run Tryd.prog w = .ok (.pointer (some (a.add 0))) w := by kernel_rfl
theorem fa139_1 (a : Addr) (w : World) : (Instr.fieldAt 139 (.pointer (some a)) 1).run Tryd.prog w = .ok (.pointer (some (a.add 1))) w := by kernel_rfl
theorem ld2 (a : Addr) (w : World) (u : Value) (hc : w.cell? a = some u) : (Instr.loadAt 2 (.pointer (some a))).run Tryd.prog w = .ok u w := loadAt_one Go.Proofs.Tryd.underlying2 rfl a w u hc
theorem ld3 (a : Addr) (w : World) (u : Value) (hc : w.cell? a = some u) : (Instr.loadAt 3 (.pointer (some a))).run Tryd.prog w = .ok u w := loadAt_one Go.Proofs.Tryd.underlying3 rfl a w u hc
theorem ld4 (a : Addr) (w : World) (u : Value) (hc : w.cell? a = some u) : (Instr.loadAt 4 (.pointer (some a))).run Tryd.prog w = .ok u w := loadAt_one Go.Proofs.Tryd.underlying4 rfl a w u hc
theorem ld5 (a : Addr) (w : World) (u : Value) (hc : w.cell? a = some u) : (Instr.loadAt 5 (.pointer (some a))).run Tryd.prog w = .ok u w := loadAt_one Go.Proofs.Tryd.underlying5 rfl a w u hc
theorem ld9 (a : Addr) (w : World) (u : Value) (hc : w.cell? a = some u) : (Instr.loadAt 9 (.pointer (some a))).run Tryd.prog w = .ok u w := loadAt_one Go.Proofs.Tryd.underlying9 rfl a w u hc
theorem ld21 (a : Addr) (w : World) (u : Value) (hc : w.cell? a = some u) : (Instr.loadAt 21 (.pointer (some a))).run Tryd.prog w = .ok u w := loadAt_one Go.Proofs.Tryd.underlying21 rfl a w u hc
theorem ld30 (a : Addr) (w : World) (u : Value) (hc : w.cell? a = some u) : (Instr.loadAt 30 (.pointer (some a))).run Tryd.prog w = .ok u w := loadAt_one Go.Proofs.Tryd.underlying30 rfl a w u hc
theorem ld38 (a : Addr) (w : World) (u : Value) (hc : w.cell? a = some u) : (Instr.loadAt 38 (.pointer (some a))).run Tryd.prog w = .ok u w := loadAt_one Go.Proofs.Tryd.underlying38 rfl a w u hc
theorem ld55 (a : Addr) (w : World) (u : Value) (hc : w.cell? a = some u) : (Instr.loadAt 55 (.pointer (some a))).run Tryd.prog w = .ok u w := loadAt_one Go.Proofs.Tryd.underlying55 rfl a w u hc
theorem ld62 (a : Addr) (w : World) (u : Value) (hc : w.cell? a = some u) : (Instr.loadAt 62 (.pointer (some a))).run Tryd.prog w = .ok u w := loadAt_one Go.Proofs.Tryd.underlying62 rfl a w u hc
theorem ld68 (a : Addr) (w : World) (u : Value) (hc : w.cell? a = some u) : (Instr.loadAt 68 (.pointer (some a))).run Tryd.prog w = .ok u w := loadAt_one Go.Proofs.Tryd.underlying68 rfl a w u hc
theorem ld69 (a : Addr) (w : World) (u : Value) (hc : w.cell? a = some u) : (Instr.loadAt 69 (.pointer (some a))).run Tryd.prog w = .ok u w := loadAt_one Go.Proofs.Tryd.underlying69 rfl a w u hc
theorem ld75 (a : Addr) (w : World) (u : Value) (hc : w.cell? a = some u) : (Instr.loadAt 75 (.pointer (some a))).run Tryd.prog w = .ok u w := loadAt_one Go.Proofs.Tryd.underlying75 rfl a w u hc
theorem ld102 (a : Addr) (w : World) (u : Value) (hc : w.cell? a = some u) : (Instr.loadAt 102 (.pointer (some a))).run Tryd.prog w = .ok u w := loadAt_one Go.Proofs.Tryd.underlying102 rfl a w u hc
theorem ld104 (a : Addr) (w : World) (u : Value) (hc : w.cell? a = some u) : (Instr.loadAt 104 (.pointer (some a))).run Tryd.prog w = .ok u w := loadAt_one Go.Proofs.Tryd.underlying104 rfl a w u hc
theorem ld124 (a : Addr) (w : World) (u : Value) (hc : w.cell? a = some u) : (Instr.loadAt 124 (.pointer (some a))).run Tryd.prog w = .ok u w := loadAt_one Go.Proofs.Tryd.underlying124 rfl a w u hc
theorem ld125 (a : Addr) (w : World) (u : Value) (hc : w.cell? a = some u) : (Instr.loadAt 125 (.pointer (some a))).run Tryd.prog w = .ok u w := loadAt_one Go.Proofs.Tryd.underlying125 rfl a w u hc
theorem ld128 (a : Addr) (w : World) (u : Value) (hc : w.cell? a = some u) : (Instr.loadAt 128 (.pointer (some a))).run Tryd.prog w = .ok u w := loadAt_one Go.Proofs.Tryd.underlying128 rfl a w u hc
theorem sz2 (w : World) : (sizeOf 2).run Tryd.prog w = .ok 1 w := by kernel_rfl
theorem sz3 (w : World) : (sizeOf 3).run Tryd.prog w = .ok 1 w := by kernel_rfl
theorem sz4 (w : World) : (sizeOf 4).run Tryd.prog w = .ok 1 w := by kernel_rfl
theorem sz5 (w : World) : (sizeOf 5).run Tryd.prog w = .ok 1 w := by kernel_rfl
theorem sz9 (w : World) : (sizeOf 9).run Tryd.prog w = .ok 1 w := by kernel_rfl
theorem sz21 (w : World) : (sizeOf 21).run Tryd.prog w = .ok 1 w := by kernel_rfl
theorem sz30 (w : World) : (sizeOf 30).run Tryd.prog w = .ok 1 w := by kernel_rfl
theorem sz38 (w : World) : (sizeOf 38).run Tryd.prog w = .ok 1 w := by kernel_rfl
theorem sz55 (w : World) : (sizeOf 55).run Tryd.prog w = .ok 1 w := by kernel_rfl
theorem sz62 (w : World) : (sizeOf 62).run Tryd.prog w = .ok 1 w := by kernel_rfl
theorem sz68 (w : World) : (sizeOf 68).run Tryd.prog w = .ok 1 w := by kernel_rfl
theorem sz69 (w : World) : (sizeOf 69).run Tryd.prog w = .ok 1 w := by kernel_rfl
theorem sz75 (w : World) : (sizeOf 75).run Tryd.prog w = .ok 1 w := by kernel_rfl
theorem sz102 (w : World) : (sizeOf 102).run Tryd.prog w = .ok 1 w := by kernel_rfl
theorem sz104 (w : World) : (sizeOf 104).run Tryd.prog w = .ok 1 w := by kernel_rfl
theorem sz124 (w : World) : (sizeOf 124).run Tryd.prog w = .ok 1 w := by kernel_rfl
theorem sz125 (w : World) : (sizeOf 125).run Tryd.prog w = .ok 1 w := by kernel_rfl
theorem sz128 (w : World) : (sizeOf 128).run Tryd.prog w = .ok 1 w := by kernel_rfl
theorem st2 (a : Addr) (w : World) (u v : Value) (hc : w.cell? a = some u) (hf : w.frozen? a = false) (h1 : v.oneCell' = true) : (Instr.storeAt 2 (.pointer (some a)) v).run Tryd.prog w = .ok () (w.setCell a v) := storeAt_one sz2 a w u v hc hf h1
theorem st3 (a : Addr) (w : World) (u v : Value) (hc : w.cell? a = some u) (hf : w.frozen? a = false) (h1 : v.oneCell' = true) : (Instr.storeAt 3 (.pointer (some a)) v).run Tryd.prog w = .ok () (w.setCell a v) := storeAt_one sz3 a w u v hc hf h1
theorem st4 (a : Addr) (w : World) (u v : Value) (hc : w.cell? a = some u) (hf : w.frozen? a = false) (h1 : v.oneCell' = true) : (Instr.storeAt 4 (.pointer (some a)) v).run Tryd.prog w = .ok () (w.setCell a v) := storeAt_one sz4 a w u v hc hf h1
theorem st5 (a : Addr) (w : World) (u v : Value) (hc : w.cell? a = some u) (hf : w.frozen? a = false) (h1 : v.oneCell' = true) : (Instr.storeAt 5 (.pointer (some a)) v).run Tryd.prog w = .ok () (w.setCell a v) := storeAt_one sz5 a w u v hc hf h1
theorem st9 (a : Addr) (w : World) (u v : Value) (hc : w.cell? a = some u) (hf : w.frozen? a = false) (h1 : v.oneCell' = true) : (Instr.storeAt 9 (.pointer (some a)) v).run Tryd.prog w = .ok () (w.setCell a v) := storeAt_one sz9 a w u v hc hf h1
theorem st21 (a : Addr) (w : World) (u v : Value) (hc : w.cell? a = some u) (hf : w.frozen? a = false) (h1 : v.oneCell' = true) : (Instr.storeAt 21 (.pointer (some a)) v).run Tryd.prog w = .ok () (w.setCell a v) := storeAt_one sz21 a w u v hc hf h1
theorem st30 (a : Addr) (w : World) (u v : Value) (hc : w.cell? a = some u) (hf : w.frozen? a = false) (h1 : v.oneCell' = true) : (Instr.storeAt 30 (.pointer (some a)) v).run Tryd.prog w = .ok () (w.setCell a v) := storeAt_one sz30 a w u v hc hf h1
theorem st38 (a : Addr) (w : World) (u v : Value) (hc : w.cell? a = some u) (hf : w.frozen? a = false) (h1 : v.oneCell' = true) : (Instr.storeAt 38 (.pointer (some a)) v).run Tryd.prog w = .ok () (w.setCell a v) := storeAt_one sz38 a w u v hc hf h1
theorem st55 (a : Addr) (w : World) (u v : Value) (hc : w.cell? a = some u) (hf : w.frozen? a = false) (h1 : v.oneCell' = true) : (Instr.storeAt 55 (.pointer (some a)) v).run Tryd.prog w = .ok () (w.setCell a v) := storeAt_one sz55 a w u v hc hf h1
theorem st62 (a : Addr) (w : World) (u v : Value) (hc : w.cell? a = some u) (hf : w.frozen? a = false) (h1 : v.oneCell' = true) : (Instr.storeAt 62 (.pointer (some a)) v).run Tryd.prog w = .ok () (w.setCell a v) := storeAt_one sz62 a w u v hc hf h1
theorem st69 (a : Addr) (w : World) (u v : Value) (hc : w.cell? a = some u) (hf : w.frozen? a = false) (h1 : v.oneCell' = true) : (Instr.storeAt 69 (.pointer (some a)) v).run Tryd.prog w = .ok () (w.setCell a v) := storeAt_one sz69 a w u v hc hf h1
theorem cf16 (xs : Array Value) (w : World) : (callFunc 16 xs).run Tryd.prog w = .ok (.enter 16 xs) w := by kernel_rfl
theorem cf17 (xs : Array Value) (w : World) : (callFunc 17 xs).run Tryd.prog w = .ok (.enter 17 xs) w := by kernel_rfl
theorem cf18 (xs : Array Value) (w : World) : (callFunc 18 xs).run Tryd.prog w = .ok (.enter 18 xs) w := by kernel_rfl
theorem cf19 (xs : Array Value) (w : World) : (callFunc 19 xs).run Tryd.prog w = .ok (.enter 19 xs) w := by kernel_rfl
theorem cf20 (xs : Array Value) (w : World) : (callFunc 20 xs).run Tryd.prog w = .ok (.enter 20 xs) w := by kernel_rfl
theorem cf21 (xs : Array Value) (w : World) : (callFunc 21 xs).run Tryd.prog w = .ok (.enter 21 xs) w := by kernel_rfl
theorem cf22 (xs : Array Value) (w : World) : (callFunc 22 xs).run Tryd.prog w = .ok (.enter 22 xs) w := by kernel_rfl
theorem cf23 (xs : Array Value) (w : World) : (callFunc 23 xs).run Tryd.prog w = .ok (.enter 23 xs) w := by kernel_rfl
theorem cf24 (xs : Array Value) (w : World) : (callFunc 24 xs).run Tryd.prog w = .ok (.enter 24 xs) w := by kernel_rfl
theorem cf25 (xs : Array Value) (w : World) : (callFunc 25 xs).run Tryd.prog w = .ok (.enter 25 xs) w := by kernel_rfl
theorem cf26 (xs : Array Value) (w : World) : (callFunc 26 xs).run Tryd.prog w = .ok (.enter 26 xs) w := by kernel_rfl
theorem cf27 (xs : Array Value) (w : World) : (callFunc 27 xs).run Tryd.prog w = .ok (.enter 27 xs) w := by kernel_rfl
theorem cf28 (xs : Array Value) (w : World) : (callFunc 28 xs).run Tryd.prog w = .ok (.enter 28 xs) w := by kernel_rfl
theorem cf29 (xs : Array Value) (w : World) : (callFunc 29 xs).run Tryd.prog w = .ok (.enter 29 xs) w := by kernel_rfl
theorem cf30 (xs : Array Value) (w : World) : (callFunc 30 xs).run Tryd.prog w = .ok (.enter 30 xs) w := by kernel_rfl
theorem cf31 (xs : Array Value) (w : World) : (callFunc 31 xs).run Tryd.prog w = .ok (.enter 31 xs) w := by kernel_rfl
theorem cf32 (xs : Array Value) (w : World) : (callFunc 32 xs).run Tryd.prog w = .ok (.enter 32 xs) w := by kernel_rfl
theorem cf33 (xs : Array Value) (w : World) : (callFunc 33 xs).run Tryd.prog w = .ok (.enter 33 xs) w := by kernel_rfl
theorem cf34 (xs : Array Value) (w : World) : (callFunc 34 xs).run Tryd.prog w = .ok (.enter 34 xs) w := by kernel_rfl
theorem cf35 (xs : Array Value) (w : World) : (callFunc 35 xs).run Tryd.prog w = .ok (.enter 35 xs) w := by kernel_rfl
theorem cf36 (xs : Array Value) (w : World) : (callFunc 36 xs).run Tryd.prog w = .ok (.enter 36 xs) w := by kernel_rfl
theorem cf37 (xs : Array Value) (w : World) : (callFunc 37 xs).run Tryd.prog w = .ok (.enter 37 xs) w := by kernel_rfl
theorem cf38 (xs : Array Value) (w : World) : (callFunc 38 xs).run Tryd.prog w = .ok (.enter 38 xs) w := by kernel_rfl
theorem cf39 (xs : Array Value) (w : World) : (callFunc 39 xs).run Tryd.prog w = .ok (.enter 39 xs) w := by kernel_rfl
theorem cf40 (xs : Array Value) (w : World) : (callFunc 40 xs).run Tryd.prog w = .ok (.enter 40 xs) w := by kernel_rfl
theorem cf41 (xs : Array Value) (w : World) : (callFunc 41 xs).run Tryd.prog w = .ok (.enter 41 xs) w := by kernel_rfl
theorem cf42 (xs : Array Value) (w : World) : (callFunc 42 xs).run Tryd.prog w = .ok (.enter 42 xs) w := by kernel_rfl
theorem cf43 (xs : Array Value) (w : World) : (callFunc 43 xs).run Tryd.prog w = .ok (.enter 43 xs) w := by kernel_rfl
theorem cf44 (xs : Array Value) (w : World) : (callFunc 44 xs).run Tryd.prog w = .ok (.enter 44 xs) w := by kernel_rfl
theorem cf45 (xs : Array Value) (w : World) : (callFunc 45 xs).run Tryd.prog w = .ok (.enter 45 xs) w := by kernel_rfl
theorem cf46 (xs : Array Value) (w : World) : (callFunc 46 xs).run Tryd.prog w = .ok (.enter 46 xs) w := by kernel_rfl
theorem cf47 (xs : Array Value) (w : World) : (callFunc 47 xs).run Tryd.prog w = .ok (.enter 47 xs) w := by kernel_rfl
theorem cf48 (xs : Array Value) (w : World) : (callFunc 48 xs).run Tryd.prog w = .ok (.enter 48 xs) w := by kernel_rfl
theorem cf49 (xs : Array Value) (w : World) : (callFunc 49 xs).run Tryd.prog w = .ok (.enter 49 xs) w := by kernel_rfl
theorem cf51 (xs : Array Value) (w : World) : (callFunc 51 xs).run Tryd.prog w = .ok (.enter 51 xs) w := by kernel_rfl
theorem cf52 (xs : Array Value) (w : World) : (callFunc 52 xs).run Tryd.prog w = .ok (.enter 52 xs) w := by kernel_rfl
theorem cf53 (xs : Array Value) (w : World) : (callFunc 53 xs).run Tryd.prog w = .ok (.enter 53 xs) w := by kernel_rfl
theorem cf55 (xs : Array Value) (w : World) : (callFunc 55 xs).run Tryd.prog w = .ok (.enter 55 xs) w := by kernel_rfl
theorem cf56 (xs : Array Value) (w : World) : (callFunc 56 xs).run Tryd.prog w = .ok (.enter 56 xs) w := by kernel_rfl
theorem cf57 (xs : Array Value) (w : World) : (callFunc 57 xs).run Tryd.prog w = .ok (.enter 57 xs) w := by kernel_rfl
theorem cf58 (xs : Array Value) (w : World) : (callFunc 58 xs).run Tryd.prog w = .ok (.enter 58 xs) w := by kernel_rfl
theorem cf59 (xs : Array Value) (w : World) : (callFunc 59 xs).run Tryd.prog w = .ok (.enter 59 xs) w := by kernel_rfl
theorem cf60 (xs : Array Value) (w : World) : (callFunc 60 xs).run Tryd.prog w = .ok (.enter 60 xs) w := by kernel_rfl
theorem cf61 (xs : Array Value) (w : World) : (callFunc 61 xs).run Tryd.prog w = .ok (.enter 61 xs) w := by kernel_rfl
theorem cf62 (xs : Array Value) (w : World) : (callFunc 62 xs).run Tryd.prog w = .ok (.enter 62 xs) w := by kernel_rfl
theorem cf63 (xs : Array Value) (w : World) : (callFunc 63 xs).run Tryd.prog w = .ok (.enter 63 xs) w := by kernel_rfl
theorem cf66 (xs : Array Value) (w : World) : (callFunc 66 xs).run Tryd.prog w = .ok (.enter 66 xs) w := by kernel_rfl
theorem cf67 (xs : Array Value) (w : World) : (callFunc 67 xs).run Tryd.prog w = .ok (.enter 67 xs) w := by kernel_rfl
theorem cf68 (xs : Array Value) (w : World) : (callFunc 68 xs).run Tryd.prog w = .ok (.enter 68 xs) w := by kernel_rfl
theorem cf69 (xs : Array Value) (w : World) : (callFunc 69 xs).run Tryd.prog w = .ok (.enter 69 xs) w := by kernel_rfl
theorem cf70 (xs : Array Value) (w : World) : (callFunc 70 xs).run Tryd.prog w = .ok (.enter 70 xs) w := by kernel_rfl
theorem cf71 (xs : Array Value) (w : World) : (callFunc 71 xs).run Tryd.prog w = .ok (.enter 71 xs) w := by kernel_rfl
theorem cf72 (xs : Array Value) (w : World) : (callFunc 72 xs).run Tryd.prog w = .ok (.enter 72 xs) w := by kernel_rfl
theorem cf73 (xs : Array Value) (w : World) : (callFunc 73 xs).run Tryd.prog w = .ok (.enter 73 xs) w := by kernel_rfl
end Go.Proofs.YtcdhbfhijkdfoaaDoor
