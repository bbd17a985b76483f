/-
  bytes.IndexByte: the first place of a byte.
-/
import Derived.Test.YtcdhbfhijkdfoaaDoorSr
import Derived.Lib.BytesEntry
namespace Go.Proofs.YtcdhbfhijkdfoaaDoor
open Go.EC Go.RowKit

theorem callExt {P : Program} {f : FuncId} {fn : Func} {ex : Array Value → Sem Value} (hf : P.funcs[f]? = some fn) (hn : (fn.name == "runtime.NumGoroutine") = false) (hb : fn.body.isNone = true) (h1 : (Extern.findNext fn).isNone = true) (h2 : Extern.find fn = some ex) (args : Array Value) (w : World) :
    (callFunc f args).run P w = ((ex args).run P w).andThen fun v w' => .ok (.value v) w' := by
  have h1' : Extern.findNext fn = none := Option.isNone_iff_eq_none.1 h1
  have hn' : ¬ fn.name = "runtime.NumGoroutine" := by simpa using hn
  have hb' : fn.body = none := Option.isNone_iff_eq_none.1 hb
  simp [callFunc, program, Sem.run, hf, hn', hb', h1', h2, mark]
theorem ext65 : Extern.find Tryd.f65 = some Extern.BytealgIndexByte.indexByte := by kernel_rfl
theorem cf65 (b c : Value) (w : World) : (callFunc 65 #[b, c]).run Tryd.prog w = ((Extern.BytealgIndexByte.indexByte #[b, c]).run Tryd.prog w).andThen fun v w' => .ok (.value v) w' :=
  callExt Tryd.func65 (by kernel_rfl) (by kernel_rfl) (by kernel_rfl) ext65 _ w
theorem byte_back (b : UInt8) : ((b.toNat : Int)).toNat.toUInt8 = b := by simp
theorem bytes_back (l : Bytes) : Lib.bytesOf (l.map fun b => (b.toNat : Int)) = l := by
  unfold Lib.bytesOf
  rw [List.map_map]
  conv => rhs; rw [← List.map_id l]
  congr 1
  funext b
  simp
theorem IndexByte_ok (A : Option Addr) (c : Nat) (l : Bytes) (b : UInt8) (w : World) (hA : At w A l) :
    Ret Tryd.prog 53 #[.slice A l.length c, .int .u8 (b.toNat : Int)] w fun v w' => v = .int .i64 (Lib.indexByte l b) ∧ w = w' := by
  have hrun : (callFunc 65 #[.slice A l.length c, .int .u8 (b.toNat : Int)]).run Tryd.prog w = .ok (.value (.int .i64 (Lib.indexByte l b))) w := by
    rw [cf65]
    by_cases hl : l = []
    · subst hl
      cases A with
      | none => rfl
      | some a => rfl
    · obtain ⟨g, o, rfl, hc⟩ := hA hl
      rw [Lib.run_indexByteSlice w g o l.length c (l.map fun b => (b.toNat : Int)) (by simp) (fun i hi => by
        have := hc i l[i] (List.getElem?_eq_getElem hi)
        rw [this]
        simp [bv, hi]) (b.toNat : Int), bytes_back, byte_back]
      rfl
  refine ret_of_W Tryd.func53 rfl (Nat.le_of_ble_eq_true rfl) ?_
  refine W_seq ?_
  refine W_region ?_
  refine V (x_assign (by conv => lhs; whnf)) rfl ?_
  refine WL_nil ?_
  refine W_seq ?_
  refine W_region ?_
  refine V (x_move (by conv => lhs; whnf)) rfl ?_
  refine V (x_move (by conv => lhs; whnf)) rfl ?_
  refine V (x_ext2 (by conv => lhs; whnf) (by conv => lhs; whnf) hrun) rfl ?_
  refine V (x_assign (by conv => lhs; whnf)) rfl ?_
  refine WL_nil ?_
  refine W_ret ?_
  repeat (with_reducible (first | refine rt ?_ | refine rb ?_))
  exact bodyE_1 rfl (by conv => lhs; whnf) ⟨rfl, rfl⟩
theorem IndexByte_n (A : Option Addr) (n c : Nat) (l : Bytes) (b : UInt8) (z z' : Int) (w : World) (hA : At w A l) (hn : n = l.length) (hz : z = (b.toNat : Int)) (hi : Lib.indexByte l b = z') :
    Ret Tryd.prog 53 #[.slice A n c, .int .u8 z] w fun v w' => v = .int .i64 z' ∧ w = w' := by
  subst hn hz hi
  exact IndexByte_ok A c l b w hA
end Go.Proofs.YtcdhbfhijkdfoaaDoor
