/-
  FnExactDefaults: the walk, and the statement.
-/
import Derived.Test.YtcdhbfhijkdfoaaNr
import Derived.Test.YtcdhbfhijkdfoaaPo
import Derived.Test.YtcdhbfhijkdfoaaRows
import Derived.WalkKit
import Derived.ProofKit
import Derived.OpenShut
import Derived.ShutString
namespace Go.Proofs.Ytcdhbfhijkdfoaa.fnExactDefaults
open Go.EC Go.ChangeShapes Go.WideShapes Go.ChangeAt Go.RowKit
open Go.ChangeMaps (open_string shut_string)

theorem own : ownKnob Try.prog.godebug = none := by kernel_rfl
def opts : List Value := [.int .i32 44, .int .i32 0, .int .i64 0, .bool false, .bool false, .bool false]
def zopts : List Value := [.int .i32 0, .int .i32 0, .int .i64 0, .bool false, .bool false, .bool false]
theorem zOpt (w : World) : (zeroValue 23).run Try.prog w = .ok (.agg #[.int .i32 0, .int .i32 0, .int .i64 0, .bool false, .bool false, .bool false]) w := by kernel_rfl
theorem szOpt (w : World) : (sizeOf 23).run Try.prog w = .ok 6 w := by kernel_rfl
theorem bdOpt1 (w : World) : (Instr.build 23 #[(0, .int .i32 44)]).run Try.prog w = .ok (.agg #[.int .i32 44, .int .i32 0, .int .i64 0, .bool false, .bool false, .bool false]) w := by kernel_rfl
theorem bdOpt6 (w : World) : (Instr.build 23 #[(0, .int .i32 44), (1, .int .i32 0), (2, .int .i64 0), (3, .bool false), (4, .bool false), (5, .bool false)]).run Try.prog w = .ok (.agg #[.int .i32 44, .int .i32 0, .int .i64 0, .bool false, .bool false, .bool false]) w := by kernel_rfl
theorem one : ∀ v ∈ opts, v.oneCell' = true := by unfold opts; simp [Value.oneCell']

theorem specD (a : ByteArray) (w : World) : Ret Try.prog 4 #[.string a] w fun v w' => v = .agg opts.toArray ∧ Only (fun _ => False) w w' := by
  refine ret_of_W Try.func4 rfl (Nat.le_of_ble_eq_true rfl) ?_
  conv => arg 3; whnf
  refine W_seq ?_
  refine W_region ?_
  refine V (x_alloc (cs := zopts) zOpt rfl) rfl ?_
  refine WL_nil ?_
  refine W_seq ?_
  refine W_region ?_
  refine V (x_build (qs := [(0, .int .i32 44)]) rfl bdOpt1) rfl ?_
  refine SE (x_storeA (vs := opts) (cs := zopts) szOpt rfl rfl (Blk.new w _ _) rfl one) (fun w1 h1 => ?_)
  refine WL_nil ?_
  refine W_ret ?_
  repeat (with_reducible (first | refine rt ?_ | refine rb ?_))
  exact bodyE_cell (cs := opts) rfl Try.underlying23 szOpt rfl h1.1 ⟨rfl, (Only.alloc _ w _).then_ h1.2 fun i hi hh => by omega⟩

theorem implD (a : ByteArray) (w : World) : Ret Try.prog 5 #[.string a] w fun v w' => v = .agg opts.toArray ∧ Only (fun _ => False) w w' := by
  refine ret_of_W Try.func5 rfl (Nat.le_of_ble_eq_true rfl) ?_
  conv => arg 3; whnf
  have hs0 : (w.alloc (.cells zopts.toArray 23)).heap.size = w.heap.size + 1 := by simp
  have hZ : Blk (w.alloc (.cells zopts.toArray 23)) w.heap.size 23 zopts := Blk.new w _ _
  refine W_seq ?_
  refine W_region ?_
  refine V (x_alloc (cs := zopts) zOpt rfl) rfl ?_
  refine WL_nil ?_
  refine W_seq ?_
  refine W_region ?_
  refine V (x_move (by conv => lhs; whnf)) rfl ?_
  refine C (x_call1 cf8 (by conv => lhs; whnf)) rfl ?_
  refine (strNew a _).mono fun v w1 h1 => ?_
  obtain ⟨rfl, rfl⟩ := h1
  refine V (x_mkiface mkSR (by conv => lhs; whnf)) rfl ?_
  refine C (x_call1 cf7 (by conv => lhs; whnf)) rfl ?_
  refine (csvNew _ _).mono fun v w1 h1 => ?_
  obtain ⟨c, rfl, hlt, hC, -, -, ho⟩ := h1
  have hZ1 := (hZ.alloc _).only ho id
  have hC1 := hC.drew
  have hZ2 := hZ1.drew
  refine V (x_assign (by conv => lhs; whnf)) rfl ?_
  refine WL_nil ?_
  refine W_seq ?_
  refine W_draw mixed ?_
  refine D_pure (i := 0) (listed' := #[true, false, false, false, false, false, false, false, false, false, false, false, false, false, false, false, false, false, false, false, false, false, false, false, false, false]) (by kernel_rfl) (by kernel_rfl) (by kernel_rfl) rfl (by kernel_rfl) (fun _ => x_move (by conv => lhs; whnf)) rfl ?_
  refine D_pure (i := 1) (listed' := #[true, true, false, false, false, false, false, false, false, false, false, false, false, false, false, false, false, false, false, false, false, false, false, false, false, false]) (by kernel_rfl) (by kernel_rfl) (by kernel_rfl) rfl (by kernel_rfl) (fun _ => x_nilc rfl) rfl ?_
  refine D_pure (i := 2) (listed' := #[true, true, true, false, false, false, false, false, false, false, false, false, false, false, false, false, false, false, false, false, false, false, false, false, false, false]) (by kernel_rfl) (by kernel_rfl) (by kernel_rfl) rfl (by kernel_rfl) (fun _ => x_field0 fa37_0 rfl) rfl ?_
  refine D_pure (i := 4) (listed' := #[true, true, true, false, true, false, false, false, false, false, false, false, false, false, false, false, false, false, false, false, false, false, false, false, false, false]) (by kernel_rfl) (by kernel_rfl) (by kernel_rfl) rfl (by kernel_rfl) (fun _ => x_move (by conv => lhs; whnf)) rfl ?_
  refine D_pure (i := 5) (listed' := #[true, true, true, false, true, true, false, false, false, false, false, false, false, false, false, false, false, false, false, false, false, false, false, false, false, false]) (by kernel_rfl) (by kernel_rfl) (by kernel_rfl) rfl (by kernel_rfl) (fun _ => x_nilc rfl) rfl ?_
  refine D_pure (i := 6) (listed' := #[true, true, true, false, true, true, true, false, false, false, false, false, false, false, false, false, false, false, false, false, false, false, false, false, false, false]) (by kernel_rfl) (by kernel_rfl) (by kernel_rfl) rfl (by kernel_rfl) (fun _ => x_field0 fa37_1 rfl) rfl ?_
  refine D_pure (i := 8) (listed' := #[true, true, true, false, true, true, true, false, true, false, false, false, false, false, false, false, false, false, false, false, false, false, false, false, false, false]) (by kernel_rfl) (by kernel_rfl) (by kernel_rfl) rfl (by kernel_rfl) (fun _ => x_move (by conv => lhs; whnf)) rfl ?_
  refine D_pure (i := 9) (listed' := #[true, true, true, false, true, true, true, false, true, true, false, false, false, false, false, false, false, false, false, false, false, false, false, false, false, false]) (by kernel_rfl) (by kernel_rfl) (by kernel_rfl) rfl (by kernel_rfl) (fun _ => x_nilc rfl) rfl ?_
  refine D_pure (i := 10) (listed' := #[true, true, true, false, true, true, true, false, true, true, true, false, false, false, false, false, false, false, false, false, false, false, false, false, false, false]) (by kernel_rfl) (by kernel_rfl) (by kernel_rfl) rfl (by kernel_rfl) (fun _ => x_field0 fa37_2 rfl) rfl ?_
  refine D_pure (i := 12) (listed' := #[true, true, true, false, true, true, true, false, true, true, true, false, true, false, false, false, false, false, false, false, false, false, false, false, false, false]) (by kernel_rfl) (by kernel_rfl) (by kernel_rfl) rfl (by kernel_rfl) (fun _ => x_move (by conv => lhs; whnf)) rfl ?_
  refine D_pure (i := 13) (listed' := #[true, true, true, false, true, true, true, false, true, true, true, false, true, true, false, false, false, false, false, false, false, false, false, false, false, false]) (by kernel_rfl) (by kernel_rfl) (by kernel_rfl) rfl (by kernel_rfl) (fun _ => x_nilc rfl) rfl ?_
  refine D_pure (i := 14) (listed' := #[true, true, true, false, true, true, true, false, true, true, true, false, true, true, true, false, false, false, false, false, false, false, false, false, false, false]) (by kernel_rfl) (by kernel_rfl) (by kernel_rfl) rfl (by kernel_rfl) (fun _ => x_field0 fa37_3 rfl) rfl ?_
  refine D_pure (i := 16) (listed' := #[true, true, true, false, true, true, true, false, true, true, true, false, true, true, true, false, true, false, false, false, false, false, false, false, false, false]) (by kernel_rfl) (by kernel_rfl) (by kernel_rfl) rfl (by kernel_rfl) (fun _ => x_move (by conv => lhs; whnf)) rfl ?_
  refine D_pure (i := 17) (listed' := #[true, true, true, false, true, true, true, false, true, true, true, false, true, true, true, false, true, true, false, false, false, false, false, false, false, false]) (by kernel_rfl) (by kernel_rfl) (by kernel_rfl) rfl (by kernel_rfl) (fun _ => x_nilc rfl) rfl ?_
  refine D_pure (i := 18) (listed' := #[true, true, true, false, true, true, true, false, true, true, true, false, true, true, true, false, true, true, true, false, false, false, false, false, false, false]) (by kernel_rfl) (by kernel_rfl) (by kernel_rfl) rfl (by kernel_rfl) (fun _ => x_field0 fa37_4 rfl) rfl ?_
  refine D_pure (i := 20) (listed' := #[true, true, true, false, true, true, true, false, true, true, true, false, true, true, true, false, true, true, true, false, true, false, false, false, false, false]) (by kernel_rfl) (by kernel_rfl) (by kernel_rfl) rfl (by kernel_rfl) (fun _ => x_move (by conv => lhs; whnf)) rfl ?_
  refine D_pure (i := 21) (listed' := #[true, true, true, false, true, true, true, false, true, true, true, false, true, true, true, false, true, true, true, false, true, true, false, false, false, false]) (by kernel_rfl) (by kernel_rfl) (by kernel_rfl) rfl (by kernel_rfl) (fun _ => x_nilc rfl) rfl ?_
  refine D_pure (i := 22) (listed' := #[true, true, true, false, true, true, true, false, true, true, true, false, true, true, true, false, true, true, true, false, true, true, true, false, false, false]) (by kernel_rfl) (by kernel_rfl) (by kernel_rfl) rfl (by kernel_rfl) (fun _ => x_field0 fa37_5 rfl) rfl ?_
  refine D_still (i := 3) (listed' := #[true, true, true, true, true, true, true, false, true, true, true, false, true, true, true, false, true, true, true, false, true, true, true, false, false, false]) (by kernel_rfl) (by kernel_rfl) (by kernel_rfl) rfl (by kernel_rfl) (fun _ hgw => x_load ld21 rfl (hgw.cell ((hC1).cell 0 rfl))) rfl ?_
  refine D_still (i := 7) (listed' := #[true, true, true, true, true, true, true, true, true, true, true, false, true, true, true, false, true, true, true, false, true, true, true, false, false, false]) (by kernel_rfl) (by kernel_rfl) (by kernel_rfl) rfl (by kernel_rfl) (fun _ hgw => x_load ld21 rfl (hgw.cell ((hC1).cell 1 rfl))) rfl ?_
  refine D_still (i := 11) (listed' := #[true, true, true, true, true, true, true, true, true, true, true, true, true, true, true, false, true, true, true, false, true, true, true, false, false, false]) (by kernel_rfl) (by kernel_rfl) (by kernel_rfl) rfl (by kernel_rfl) (fun _ hgw => x_load ld3 rfl (hgw.cell ((hC1).cell 2 rfl))) rfl ?_
  refine D_still (i := 15) (listed' := #[true, true, true, true, true, true, true, true, true, true, true, true, true, true, true, true, true, true, true, false, true, true, true, false, false, false]) (by kernel_rfl) (by kernel_rfl) (by kernel_rfl) rfl (by kernel_rfl) (fun _ hgw => x_load ld4 rfl (hgw.cell ((hC1).cell 3 rfl))) rfl ?_
  refine D_still (i := 19) (listed' := #[true, true, true, true, true, true, true, true, true, true, true, true, true, true, true, true, true, true, true, true, true, true, true, false, false, false]) (by kernel_rfl) (by kernel_rfl) (by kernel_rfl) rfl (by kernel_rfl) (fun _ hgw => x_load ld4 rfl (hgw.cell ((hC1).cell 4 rfl))) rfl ?_
  refine D_one (i := 23) (listed' := #[true, true, true, true, true, true, true, true, true, true, true, true, true, true, true, true, true, true, true, true, true, true, true, true, false, false]) (by kernel_rfl) rfl (by kernel_rfl) (x_load ld4 rfl ((hC1).cell 5 rfl)) rfl ?_
  refine D_pure (i := 24) (listed' := #[true, true, true, true, true, true, true, true, true, true, true, true, true, true, true, true, true, true, true, true, true, true, true, true, true, false]) (by kernel_rfl) (by kernel_rfl) (by kernel_rfl) rfl (by kernel_rfl) (fun _ => x_build (qs := [(0, .int .i32 44), (1, .int .i32 0), (2, .int .i64 0), (3, .bool false), (4, .bool false), (5, .bool false)]) rfl bdOpt6) rfl ?_
  refine D_oneSE (i := 25) (listed' := #[true, true, true, true, true, true, true, true, true, true, true, true, true, true, true, true, true, true, true, true, true, true, true, true, true, true]) (by kernel_rfl) rfl (by kernel_rfl) (x_storeA (vs := opts) (cs := zopts) szOpt rfl rfl hZ2 rfl one) (fun w2 h2 => ?_)
  refine WA_done (by kernel_rfl) ?_
  refine W_ret ?_
  repeat (with_reducible (first | refine rt ?_ | refine rb ?_))
  refine bodyE_cell (cs := opts) rfl Try.underlying23 szOpt rfl h2.1 ⟨rfl, ?_⟩
  refine ((((Only.alloc _ w _).trans (Only.alloc _ _ _)).trans ho).trans (Only.drew _ _)).then_ h2.2 fun i hi hh => by omega

theorem eqD (w : World) : Ret Try.prog 6 #[.agg opts.toArray, .agg opts.toArray] w fun v w' => v = .bool true ∧ Only (fun _ => False) w w' := by
  refine ret_of_W Try.func6 rfl (Nat.le_of_ble_eq_true rfl) ?_
  conv => arg 3; whnf
  have h1 : Blk ((w.alloc (.cells opts.toArray 23)).alloc (.cells opts.toArray 23)) w.heap.size 23 opts := (Blk.new w _ _).alloc _
  have h2 : Blk ((w.alloc (.cells opts.toArray 23)).alloc (.cells opts.toArray 23)) (w.alloc (.cells opts.toArray 23)).heap.size 23 opts := Blk.new _ _ _
  refine W_seq ?_
  refine W_region ?_
  refine V (x_box (cs := opts) rfl) rfl ?_
  refine V (x_box (cs := opts) rfl) rfl ?_
  refine V (x_assign (by conv => lhs; whnf)) rfl ?_
  refine WL_nil ?_
  refine W_seq ?_
  refine W_seq ?_
  refine W_region ?_
  refine V (x_field0 fa23_0 rfl) rfl ?_
  refine V (x_load ld21 rfl ((h1).cell 0 rfl)) rfl ?_
  refine V (x_field0 fa23_0 rfl) rfl ?_
  refine V (x_load ld21 rfl ((h2).cell 0 rfl)) rfl ?_
  refine V (x_bin rfl rfl rfl) rfl ?_
  refine WL_nil ?_
  refine W_false (rfl) ?_
  refine W_skip ?_
  refine W_seq ?_
  refine W_seq ?_
  refine W_region ?_
  refine V (x_field0 fa23_1 rfl) rfl ?_
  refine V (x_load ld21 rfl ((h1).cell 1 rfl)) rfl ?_
  refine V (x_field0 fa23_1 rfl) rfl ?_
  refine V (x_load ld21 rfl ((h2).cell 1 rfl)) rfl ?_
  refine V (x_bin rfl rfl rfl) rfl ?_
  refine WL_nil ?_
  refine W_false (rfl) ?_
  refine W_skip ?_
  refine W_seq ?_
  refine W_seq ?_
  refine W_region ?_
  refine V (x_field0 fa23_2 rfl) rfl ?_
  refine V (x_load ld3 rfl ((h1).cell 2 rfl)) rfl ?_
  refine V (x_field0 fa23_2 rfl) rfl ?_
  refine V (x_load ld3 rfl ((h2).cell 2 rfl)) rfl ?_
  refine V (x_bin rfl rfl rfl) rfl ?_
  refine WL_nil ?_
  refine W_false (rfl) ?_
  refine W_skip ?_
  refine W_seq ?_
  refine W_seq ?_
  refine W_region ?_
  refine V (x_field0 fa23_3 rfl) rfl ?_
  refine V (x_load ld4 rfl ((h1).cell 3 rfl)) rfl ?_
  refine V (x_field0 fa23_3 rfl) rfl ?_
  refine V (x_load ld4 rfl ((h2).cell 3 rfl)) rfl ?_
  refine V (x_neq_bool Try.underlying4 rfl rfl) rfl ?_
  refine WL_nil ?_
  refine W_false (rfl) ?_
  refine W_skip ?_
  refine W_seq ?_
  refine W_seq ?_
  refine W_region ?_
  refine V (x_field0 fa23_4 rfl) rfl ?_
  refine V (x_load ld4 rfl ((h1).cell 4 rfl)) rfl ?_
  refine V (x_field0 fa23_4 rfl) rfl ?_
  refine V (x_load ld4 rfl ((h2).cell 4 rfl)) rfl ?_
  refine V (x_neq_bool Try.underlying4 rfl rfl) rfl ?_
  refine WL_nil ?_
  refine W_false (rfl) ?_
  refine W_skip ?_
  refine W_seq ?_
  refine W_seq ?_
  refine W_region ?_
  refine V (x_field0 fa23_5 rfl) rfl ?_
  refine V (x_load ld4 rfl ((h1).cell 5 rfl)) rfl ?_
  refine V (x_field0 fa23_5 rfl) rfl ?_
  refine V (x_load ld4 rfl ((h2).cell 5 rfl)) rfl ?_
  refine V (x_neq_bool Try.underlying4 rfl rfl) rfl ?_
  refine WL_nil ?_
  refine W_false (rfl) ?_
  refine W_skip ?_
  refine W_seq ?_
  refine W_region ?_
  refine V (x_assign (by conv => lhs; whnf)) rfl ?_
  refine WL_nil ?_
  refine W_ret ?_
  repeat (with_reducible (first | refine rt ?_ | refine rb ?_))
  exact bodyE_1 rfl rfl ⟨rfl, (Only.alloc _ w _).trans (Only.alloc _ _ _)⟩

theorem walkR (a : ByteArray) (_ : a.size ≤ maxLen) (w : World) : Ret Try.prog 3 #[.string a] w fun v w' => v = .bool true ∧ Only (fun _ => False) w w' := by
  refine ret_of_W Try.func3 rfl (Nat.le_of_ble_eq_true rfl) ?_
  conv => arg 3; whnf
  by_cases hb : (a.size : Int) > 1048576
  · skip
    refine W_seq ?_
    refine W_region ?_
    refine V (x_assign (by conv => lhs; whnf)) rfl ?_
    refine WL_nil ?_
    refine W_seq ?_
    refine W_seq ?_
    refine W_region ?_
    refine V (x_move (by conv => lhs; whnf)) rfl ?_
    refine V (x_len_str Try.underlying9 rfl) rfl ?_
    refine V (x_bin rfl rfl (bt (decide_eq_true (by omega)))) rfl ?_
    refine WL_nil ?_
    refine W_true (rfl) ?_
    refine W_seq ?_
    refine W_region ?_
    refine V (x_assign (by conv => lhs; whnf)) rfl ?_
    refine WL_nil ?_
    refine W_ret ?_
    repeat (with_reducible (first | refine rt ?_ | refine rb ?_))
    exact bodyE_1 rfl rfl ⟨rfl, Only.refl _ _⟩
  · skip
    refine W_seq ?_
    refine W_region ?_
    refine V (x_assign (by conv => lhs; whnf)) rfl ?_
    refine WL_nil ?_
    refine W_seq ?_
    refine W_seq ?_
    refine W_region ?_
    refine V (x_move (by conv => lhs; whnf)) rfl ?_
    refine V (x_len_str Try.underlying9 rfl) rfl ?_
    refine V (x_bin rfl rfl (bf (decide_eq_false (by omega)))) rfl ?_
    refine WL_nil ?_
    refine W_false (rfl) ?_
    refine W_skip ?_
    refine W_seq ?_
    refine W_region ?_
    refine V (x_move (by conv => lhs; whnf)) rfl ?_
    refine C (x_call1 cf4 (by conv => lhs; whnf)) rfl ?_
    refine (specD a _).mono fun v w1 h1 => ?_
    obtain ⟨rfl, ho1⟩ := h1
    refine V (x_alloc (cs := zopts) zOpt rfl) rfl ?_
    refine SE (x_storeA (vs := opts) (cs := zopts) szOpt rfl rfl (Blk.new w1 _ _) rfl one) (fun w2 h2 => ?_)
    refine WL_nil ?_
    refine W_seq ?_
    refine W_region ?_
    refine V (x_move (by conv => lhs; whnf)) rfl ?_
    refine C (x_call1 cf5 (by conv => lhs; whnf)) rfl ?_
    refine (implD a _).mono fun v w3 h3 => ?_
    obtain ⟨rfl, ho3⟩ := h3
    refine V (x_alloc (cs := zopts) zOpt rfl) rfl ?_
    refine SE (x_storeA (vs := opts) (cs := zopts) szOpt rfl rfl (Blk.new w3 _ _) rfl one) (fun w4 h4 => ?_)
    have hA := ((h2.1.only ho3 id).alloc (.cells zopts.toArray 23)).only h4.2 (by have := h2.1.lt; have := ho3.size; omega)
    refine WL_nil ?_
    refine W_seq ?_
    refine W_seq ?_
    refine W_region ?_
    refine V (x_loadA Try.underlying23 (cs := opts) szOpt rfl h4.1) rfl ?_
    refine V (x_loadA Try.underlying23 (cs := opts) szOpt rfl hA) rfl ?_
    refine C (x_call2 cf6 (by conv => lhs; whnf) (by conv => lhs; whnf)) rfl ?_
    refine (eqD _).mono fun v w5 h5 => ?_
    obtain ⟨rfl, ho5⟩ := h5
    refine V (x_not rfl) rfl ?_
    refine WL_nil ?_
    refine W_false (rfl) ?_
    refine W_skip ?_
    refine W_seq ?_
    refine W_region ?_
    refine V (x_assign (by conv => lhs; whnf)) rfl ?_
    refine WL_nil ?_
    refine W_ret ?_
    repeat (with_reducible (first | refine rt ?_ | refine rb ?_))
    refine bodyE_1 rfl rfl ⟨rfl, ?_⟩
    have o1 : Only (fun _ => False) w w2 := (ho1.trans (Only.alloc _ w1 _)).then_ h2.2 fun i hi hh => by have := ho1.size; omega
    have o2 : Only (fun _ => False) w w4 := ((o1.trans ho3).trans (Only.alloc _ w3 _)).then_ h4.2 fun i hi hh => by have := (o1.trans ho3).size; omega
    exact o2.trans ho5

theorem walk (a0 : ByteArray) (w0 : a0.size ≤ maxLen) (w : World) :
    Calls Try.prog 3 #[.string a0] w fun e w' => e = .returned (.bool true) ∧ Only (fun _ => False) w w' :=
  Calls.mono (walkR a0 w0 w) fun _ _ ⟨_, he, hv, ho⟩ => by subst hv; exact ⟨he, ho⟩

set_option maxRecDepth 100000 in
theorem lifted (os : Os) (started : os.Started) (H : Type) (enc : TypeId × Value → H) :
    ReturnsInHanded {} Try.checked os 3 .any (Rows.fnExactDefaultsSpec.pre6 enc Try.prog Try.f3 Rows.fnExactDefaultsRow.domain false) (Rows.fnExactDefaultsSpec.post enc Try.prog Try.f3 false true false false) := by
  refine returnsInHanded_of_change (C := Try.checked) own started (by kernel_rfl) Try.func3
    (ChangeSpec.witness6 (enc := enc) (C := Try.checked) false ⟨#[], #[.string ByteArray.empty], []⟩ 8 (by kernel_rfl) (by kernel_rfl) (by kernel_rfl) (by kernel_rfl)) ?_
  intro W base args ds gs before hval0 hW hcnd _
  have hval : ∀ (j : Nat) t v, Try.f3.params[j]? = some t → args[j]? = some v → Value.okWide Try.prog W .any base t v := hval0
  have hW' := hW
  obtain ⟨p, q, hA0, hV, rfl, hfz, hnd⟩ := hW
  have hA : DataW.TrodAll enc Try.prog W 0 (fun _ => true) true Try.f3.params.toList args.toList ds p := hA0
  rw [Try.params3] at hA hval
  obtain ⟨v0, vs0, d0, ds0, p0, q0, hargs, rfl, rfl, h0, r0⟩ := trodAll_cons hA
  obtain ⟨rfl, rfl, rfl⟩ := trodAll_nil r0
  obtain rfl : args = #[v0] := by cases args; simp_all
  obtain ⟨rfl, rfl⟩ := trodVars_none hV
  obtain ⟨a0, rfl, rfl, rfl, w0⟩ := open_string Try.underlying9 (hval 0 9 v0 rfl rfl) h0
  clear hA0 hval0
  simp only [List.append_nil] at hW'
  refine (walk a0 w0 W).mono fun e W' ⟨he, hg⟩ => ?_
  subst he
  exact ⟨_, rfl, post_of_only (pa := []) (pv := []) hW' (fun _ _ _ => (trodAll_cons_mk (shut_bool Try.underlying4 _) trodAll_mk0)) (fun sp _ => (trodAll_cons_mk (shut_string Try.underlying9 w0) trodAll_mk0)) (fun _ _ => rfl) rfl
    hg (ok_one (by kernel_rfl) rfl (okWide_bool_mk Try.underlying4 _))⟩

theorem over : Rows.fnExactDefaultsRow.holds Try.pinned (OpenSpec.ofChange Rows.fnExactDefaultsSpec) :=
  OpenClaim.holds_of_wide 3 Try.f3 rfl rfl rfl rfl rfl rfl rfl ⟨rfl, rfl, rfl, rfl, rfl⟩ rfl rfl rfl rfl rfl (by kernel_rfl) Try.func3 (by kernel_rfl)
    (of_decide_eq_true (by kernel_rfl)) (by unfold Func.isWrapper; first | (rw [if_pos (by decide +kernel)]; kernel_rfl) | (rw [if_neg (by decide +kernel)]; exact ⟨rfl, rfl⟩))
    (fun os started H enc _ => lifted os started H enc)

/-- The statement. -/
theorem proved : Rows.FnExactDefaultsSaid :=
  over
#print axioms proved
end Go.Proofs.Ytcdhbfhijkdfoaa.fnExactDefaults
