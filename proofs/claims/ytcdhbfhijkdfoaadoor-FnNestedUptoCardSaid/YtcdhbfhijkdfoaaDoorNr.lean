/-
  NewReader: strings.NewReader, bufio.NewReader, csv.NewReader.
-/
import Derived.Test.YtcdhbfhijkdfoaaDoorEb
import Derived.Test.YtcdhbfhijkdfoaaDoorPf
namespace Go.Proofs.YtcdhbfhijkdfoaaDoor
open Go.EC Go.RowKit

/-- What a new csv.Reader holds. -/
def newCells (b : Nat) : List Value :=
  [.int .i32 44, .int .i32 0, .int .i64 0, .bool false, .bool false, .bool false, .bool false, .pointer (some ⟨b, 0, none⟩), .int .i64 0, .int .i64 0, .slice none 0 0, .slice none 0 0, .slice none 0 0, .slice none 0 0, .slice none 0 0]
def newBuf (g s : Nat) : List Value :=
  [.slice (some ⟨g, 0, none⟩) 4096 4096, .iface 66 (.pointer (some ⟨s, 0, none⟩)), .int .i64 0, .int .i64 0, .nilIface, .int .i64 (-1), .int .i64 (-1)]
def zeroBuf : List Value := [.slice none 0 0, .nilIface, .int .i64 0, .int .i64 0, .nilIface, .int .i64 0, .int .i64 0]
theorem bdStr (str : ByteArray) (w : World) : (Instr.build 78 #[(0, .string str), (1, .int .i64 0), (2, .int .i64 (-1))]).run Tryd.prog w = .ok (.agg #[.string str, .int .i64 0, .int .i64 (-1)]) w := by kernel_rfl
theorem bdCsv (p : Option Addr) (w : World) : (Instr.build 71 #[(0, .int .i32 44), (7, .pointer p)]).run Tryd.prog w = .ok (.agg #[.int .i32 44, .int .i32 0, .int .i64 0, .bool false, .bool false, .bool false, .bool false, .pointer p, .int .i64 0, .int .i64 0, .slice none 0 0, .slice none 0 0, .slice none 0 0, .slice none 0 0, .slice none 0 0]) w := by kernel_rfl
theorem bdBuf (A : Option Addr) (n c : Nat) (t : TypeId) (v : Value) (w : World) : (Instr.build 121 #[(0, .slice A n c), (1, .iface t v), (5, .int .i64 (-1)), (6, .int .i64 (-1))]).run Tryd.prog w = .ok (.agg #[.slice A n c, .iface t v, .int .i64 0, .int .i64 0, .nilIface, .int .i64 (-1), .int .i64 (-1)]) w := by kernel_rfl
theorem taBuf (v : Value) (w : World) : (Instr.typeAssert (.iface 66 v) 75 68 true).run Tryd.prog w = .ok (.tuple #[.pointer none, .bool false]) w := by kernel_rfl
theorem zBuf (w : World) : (zeroValue 121).run Tryd.prog w = .ok (.agg #[.slice none 0 0, .nilIface, .int .i64 0, .int .i64 0, .nilIface, .int .i64 0, .int .i64 0]) w := by kernel_rfl
theorem zU8 (w : World) : (zeroValue 5).run Tryd.prog w = .ok (.int .u8 0) w := by kernel_rfl
theorem szU8 (w : World) : (sizeOf 5).run Tryd.prog w = .ok 1 w := by kernel_rfl
theorem byU8 : ∃ i, Tryd.prog.info? 5 = some i ∧ i.bytes = 1 := by
  have h : (Tryd.prog.info? 5).map (fun i => i.bytes) = some 1 := by kernel_rfl
  exact Option.map_eq_some_iff.1 h
theorem szBuf (w : World) : (sizeOf 121).run Tryd.prog w = .ok 7 w := by kernel_rfl
theorem mkSR (v : Value) (w : World) : (Instr.makeInterface 66 v).run Tryd.prog w = .ok (.iface 66 v) w := by kernel_rfl

theorem strNew (str : ByteArray) (w : World) : Ret Tryd.prog 40 #[.string str] w fun v w' => v = .pointer (some ⟨w.heap.size, 0, none⟩) ∧ w' = w.alloc (.cells [.string str, .int .i64 0, .int .i64 (-1)].toArray 78) := by
  refine ret_of_W Tryd.func40 rfl (Nat.le_of_ble_eq_true rfl) ?_
  conv => arg 3; whnf
  refine W_seq ?_
  refine W_region ?_
  refine V (x_assign (by conv => lhs; whnf)) rfl ?_
  refine WL_nil ?_
  refine W_seq ?_
  refine W_region ?_
  refine V (x_move (by conv => lhs; whnf)) rfl ?_
  refine V (x_build (qs := [(0, .string str), (1, .int .i64 0), (2, .int .i64 (-1))]) rfl (bdStr str)) rfl ?_
  refine V (x_box (cs := [.string str, .int .i64 0, .int .i64 (-1)]) rfl) rfl ?_
  refine V (x_assign (by conv => lhs; whnf)) rfl ?_
  refine WL_nil ?_
  refine W_ret ?_
  repeat (with_reducible (first | refine rt ?_ | refine rb ?_))
  exact bodyE_1 rfl rfl ⟨rfl, rfl⟩

theorem bufReset (b g s : Nat) (w : World) (old : List Value) (hl : old.length = 7) (hB : Blk w b 121 old) :
    Ret Tryd.prog 66 #[.pointer (some ⟨b, 0, none⟩), .slice (some ⟨g, 0, none⟩) 4096 4096, .iface 66 (.pointer (some ⟨s, 0, none⟩))] w fun _ w' => Blk w' b 121 (newBuf g s) ∧ Only (· = b) w w' := by
  refine ret_of_W Tryd.func66 rfl (Nat.le_of_ble_eq_true rfl) ?_
  conv => arg 3; whnf
  refine W_region ?_
  refine V (x_move (by conv => lhs; whnf)) rfl ?_
  refine V (x_move (by conv => lhs; whnf)) rfl ?_
  refine V (x_move (by conv => lhs; whnf)) rfl ?_
  refine V (x_build (qs := [(0, .slice (some ⟨g, 0, none⟩) 4096 4096), (1, .iface 66 (.pointer (some ⟨s, 0, none⟩))), (5, .int .i64 (-1)), (6, .int .i64 (-1))]) rfl (bdBuf _ _ _ _ _)) rfl ?_
  refine V (x_nilc rfl) rfl ?_
  refine SE (x_storeA (vs := newBuf g s) (by rw [hl]; exact szBuf) rfl rfl hB (by rw [hl]; rfl) (by unfold newBuf; simp [Value.oneCell'])) (fun w1 h1 => ?_)
  refine WL_nil ?_
  repeat (first | with_reducible refine xt ?_ | with_reducible refine xb ?_ | with_reducible refine nt ?_ | with_reducible refine nb ?_ | with_reducible refine xn rfl ?_)
  exact bodyE_0 rfl h1

theorem bufNewSize (s : Nat) (w : World) : Ret Tryd.prog 56 #[.iface 66 (.pointer (some ⟨s, 0, none⟩)), .int .i64 4096] w fun v w' =>
    v = .pointer (some ⟨w.heap.size, 0, none⟩) ∧ Blk w' w.heap.size 121 (newBuf (w.heap.size + 1) s) ∧ Blk w' (w.heap.size + 1) 5 (List.replicate 4096 (.int .u8 0)) ∧ Only (fun _ => False) w w' := by
  refine ret_of_W Tryd.func56 rfl (Nat.le_of_ble_eq_true rfl) ?_
  conv => arg 3; whnf
  have hsz : (w.alloc (.cells zeroBuf.toArray 121)).heap.size = w.heap.size + 1 := by simp
  have hB0 : Blk (w.alloc (.cells zeroBuf.toArray 121)) w.heap.size 121 zeroBuf := Blk.new w _ _
  refine W_seq ?_
  refine W_region ?_
  refine V (x_assign (by conv => lhs; whnf)) rfl ?_
  refine WL_nil ?_
  refine W_seq ?_
  refine W_region ?_
  refine V (x_move (by conv => lhs; whnf)) rfl ?_
  refine V (x_tassert (by conv => lhs; whnf) (taBuf _)) rfl ?_
  refine V (x_move (by conv => lhs; whnf)) rfl ?_
  refine V (x_extract rfl rfl) rfl ?_
  refine V (x_extract rfl rfl) rfl ?_
  refine V (x_assign (by conv => lhs; whnf)) rfl ?_
  refine V (x_assign (by conv => lhs; whnf)) rfl ?_
  refine WL_nil ?_
  refine W_seq ?_
  refine W_seq ?_
  refine W_region ?_
  refine V (x_move (by conv => lhs; whnf)) rfl ?_
  refine V (x_move (by conv => lhs; whnf)) rfl ?_
  refine SG rfl (by decide) rfl ?_
  refine SG rfl (by decide) rfl ?_
  refine SG rfl (by decide) rfl ?_
  refine SG rfl (by decide) rfl ?_
  refine SG rfl (by decide) rfl ?_
  refine SG rfl (by decide) rfl ?_
  refine SG rfl (by decide) rfl ?_
  refine V (x_pick_f rfl (by conv => lhs; whnf)) rfl ?_
  refine WL_nil ?_
  refine W_false (rfl) ?_
  refine W_skip ?_
  refine W_seq ?_
  refine W_region ?_
  refine V (x_alloc (cs := zeroBuf) zBuf rfl) rfl ?_
  refine V (x_assign (by conv => lhs; whnf)) rfl ?_
  refine WL_nil ?_
  refine W_seq ?_
  refine W_region ?_
  refine V (x_move (by conv => lhs; whnf)) rfl ?_
  refine V (x_move (by conv => lhs; whnf)) rfl ?_
  refine V (x_max rfl rfl (m := 4096) rfl) rfl ?_
  refine V (x_mkslice (n := 4096) (z := .int .u8 0) Tryd.underlying62 szU8 byU8 zU8 rfl rfl rfl (by omega) (by omega)) rfl ?_
  refine V (x_move (by conv => lhs; whnf)) rfl ?_
  refine C (x_call3 cf66 (by conv => lhs; whnf) (by conv => lhs; whnf) (by conv => lhs; whnf)) rfl ?_
  refine (bufReset w.heap.size _ s _ zeroBuf rfl (hB0.alloc _)).mono fun _ w1 h1 => ?_
  refine WL_nil ?_
  refine W_seq ?_
  refine W_region ?_
  refine V (x_move (by conv => lhs; whnf)) rfl ?_
  refine V (x_assign (by conv => lhs; whnf)) rfl ?_
  refine WL_nil ?_
  refine W_ret ?_
  repeat (with_reducible (first | refine rt ?_ | refine rb ?_))
  rw [hsz] at h1
  refine bodyE_1 rfl rfl ⟨rfl, h1.1, ?_, ?_⟩
  · have := Blk.new (w.alloc (.cells zeroBuf.toArray 121)) 5 (List.replicate 4096 (.int .u8 0))
    rw [hsz] at this
    exact this.only h1.2 (by omega)
  · refine ((Only.alloc _ w _).trans (Only.alloc _ _ _)).then_ h1.2 fun i hi hh => ?_
    omega

theorem bufNew (s : Nat) (w : World) : Ret Tryd.prog 43 #[.iface 66 (.pointer (some ⟨s, 0, none⟩))] w fun v w' =>
    v = .pointer (some ⟨w.heap.size, 0, none⟩) ∧ Blk w' w.heap.size 121 (newBuf (w.heap.size + 1) s) ∧ Blk w' (w.heap.size + 1) 5 (List.replicate 4096 (.int .u8 0)) ∧ Only (fun _ => False) w w' := by
  refine ret_of_W Tryd.func43 rfl (Nat.le_of_ble_eq_true rfl) ?_
  conv => arg 3; whnf
  refine W_seq ?_
  refine W_region ?_
  refine V (x_assign (by conv => lhs; whnf)) rfl ?_
  refine WL_nil ?_
  refine W_seq ?_
  refine W_region ?_
  refine V (x_move (by conv => lhs; whnf)) rfl ?_
  refine C (x_call2 cf56 (by conv => lhs; whnf) (by conv => lhs; whnf)) rfl ?_
  refine (bufNewSize s _).mono fun v w1 h1 => ?_
  refine V (x_assign (by conv => lhs; whnf)) rfl ?_
  refine WL_nil ?_
  refine W_ret ?_
  repeat (with_reducible (first | refine rt ?_ | refine rb ?_))
  exact bodyE_1 rfl rfl h1

theorem csvNew (s : Nat) (w : World) : Ret Tryd.prog 39 #[.iface 66 (.pointer (some ⟨s, 0, none⟩))] w fun v w' =>
    ∃ a, v = .pointer (some ⟨a, 0, none⟩) ∧ w.heap.size + 1 < a ∧ Blk w' a 71 (newCells w.heap.size) ∧ Blk w' w.heap.size 121 (newBuf (w.heap.size + 1) s) ∧ Blk w' (w.heap.size + 1) 5 (List.replicate 4096 (.int .u8 0)) ∧ Only (fun _ => False) w w' := by
  refine ret_of_W Tryd.func39 rfl (Nat.le_of_ble_eq_true rfl) ?_
  conv => arg 3; whnf
  refine W_seq ?_
  refine W_region ?_
  refine V (x_assign (by conv => lhs; whnf)) rfl ?_
  refine WL_nil ?_
  refine W_seq ?_
  refine W_region ?_
  refine V (x_move (by conv => lhs; whnf)) rfl ?_
  refine C (x_call1 cf43 (by conv => lhs; whnf)) rfl ?_
  refine (bufNew s _).mono fun v w1 h1 => ?_
  obtain ⟨rfl, h1, h2, h3⟩ := h1
  refine V (x_build (qs := [(0, .int .i32 44), (7, .pointer (some ⟨w.heap.size, 0, none⟩))]) rfl (bdCsv _)) rfl ?_
  refine V (x_box (cs := newCells w.heap.size) rfl) rfl ?_
  refine V (x_assign (by conv => lhs; whnf)) rfl ?_
  refine WL_nil ?_
  refine W_ret ?_
  repeat (with_reducible (first | refine rt ?_ | refine rb ?_))
  exact bodyE_1 rfl rfl ⟨w1.heap.size, rfl, h2.lt, Blk.new _ _ _, h1.alloc _, h2.alloc _, h3.trans (Only.alloc _ _ _)⟩
end Go.Proofs.YtcdhbfhijkdfoaaDoor
