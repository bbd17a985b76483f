/-
  FnQuotes: quotes within quotes.
-/
import Derived.Test.YtcdhbfhijkdfoaaDoorTe
namespace Go.Proofs.YtcdhbfhijkdfoaaDoor
open Go.EC Go.RowKit
def qs (n : Nat) : Bytes := List.replicate n 34
theorem qs_add (n m : Nat) : qs n ++ qs m = qs (n + m) := by unfold qs; rw [List.replicate_append_replicate]
theorem quotes_dbl {cm : Bytes} {lz : Bool} {acc fs : List Bytes} {rest s : Bytes} : ∀ (n : Nat) (cur : Bytes), Fields cm lz (some (cur ++ qs n)) s acc fs rest → Fields cm lz (some cur) (qs (2 * n) ++ s) acc fs rest
  | 0, cur, h => by simpa [qs] using h
  | n + 1, cur, h => by
    have h1 : qs (2 * (n + 1)) = 34 :: 34 :: qs (2 * n) := by unfold qs; rw [show 2 * (n + 1) = 2 * n + 1 + 1 by omega, List.replicate_succ, List.replicate_succ]
    rw [h1]
    refine Fields.dbl (quotes_dbl n (cur ++ [34]) ?_)
    have h2 : cur ++ [34] ++ qs n = cur ++ qs (n + 1) := by
      rw [List.append_assoc]
      congr 1
    rw [h2]
    exact h
theorem qs_two (n : Nat) : qs (2 * n + 2) = 34 :: (qs (2 * n) ++ [34]) := by
  have h : qs (2 * n + 2) = qs 1 ++ (qs (2 * n) ++ qs 1) := by rw [qs_add, qs_add]; congr 1; omega
  rw [h]; rfl
theorem tab_quotes {r : Int} {cm : Bytes} (h : Cm r cm) (lz : Bool) (ct : Int) (n : Nat) : Tab cm lz ct (((qs (2 * n + 2) ++ cm) ++ qs (2 * n + 2)) ++ [10]) [[qs n, qs n]] := by
  have hF : Fields cm lz none (34 :: (qs (2 * n) ++ 34 :: (cm ++ (34 :: (qs (2 * n) ++ 34 :: [10]))))) [] [qs n, qs n] [] := by
    refine Fields.opened (quotes_dbl n [] (Fields.close (Fields.opened (quotes_dbl n [] ?_))))
    have := Fields.closeEnd (cm := cm) (lz := lz) (cur := [] ++ qs n) (v := [10]) (acc := [[] ++ qs n]) (.inr ⟨[], rfl⟩)
    simpa using this
  have he : ((qs (2 * n + 2) ++ cm) ++ qs (2 * n + 2)) ++ [10] = 34 :: (qs (2 * n) ++ 34 :: (cm ++ (34 :: (qs (2 * n) ++ 34 :: [10])))) := by
    rw [qs_two]; simp
  have h13 : (13 : UInt8) ∉ ((qs (2 * n + 2) ++ cm) ++ qs (2 * n + 2)) ++ [10] := by
    have hq : (13 : UInt8) ∉ qs (2 * n + 2) := fun hh => by
      have := List.eq_of_mem_replicate hh
      exact absurd this (by decide)
    simp only [List.mem_append, not_or]
    exact ⟨⟨⟨hq, h.no13⟩, hq⟩, by decide⟩
  refine Tab.cons ?_ ?_ h13 (fun _ => .inl ?_) (by rw [he]; exact hF) Tab.nil
  · rw [he]; simp
  · rw [he]; simp
  · rw [he]; rfl
theorem quotes (z : Int) (o : Opt) (er : Nat → Addr) (w : World) (hG : Glob w er) (hU : Lib.Utf8Tabs 10 11 w) :
    Ret Tryd.prog 10 #[.int .i64 z, .agg o.cells.toArray] w fun v w' => v = .bool true ∧ Only (fun _ => False) w w' := by
  refine ret_of_W Tryd.func10 rfl (Nat.le_of_ble_eq_true rfl) ?_
  have hO := Blk.new w 23 o.cells
  have hO1 : Only (fun _ => False) w (w.alloc (.cells o.cells.toArray 23)) := Only.alloc _ _ _
  generalize hwA : w.alloc (.cells o.cells.toArray 23) = wA at *
  have hO2 : Blk ((wA.setCell ⟨w.heap.size, 2, none⟩ (.int .i64 (-1))).setCell ⟨w.heap.size, 4, none⟩ (.bool false)) w.heap.size 23 (o.set o.lz).cells := (hO.set 2 _).set 4 _
  have hS2 : Only (fun _ => False) w ((wA.setCell ⟨w.heap.size, 2, none⟩ (.int .i64 (-1))).setCell ⟨w.heap.size, 4, none⟩ (.bool false)) :=
    hO1.then_ ((Only.setCell (· = w.heap.size) _ rfl _).trans (Only.setCell (· = w.heap.size) _ rfl _)) fun i hi hh => by omega
  have hO1b := hO.set 2 (.int .i64 (-1))
  generalize hwB : (wA.setCell ⟨w.heap.size, 2, none⟩ (.int .i64 (-1))).setCell ⟨w.heap.size, 4, none⟩ (.bool false) = wB at *
  have hg := good_ok (o.set o.lz) wB
  have tabs : ∀ w', Only (fun _ => False) w w' → Glob w' er ∧ Lib.Utf8Tabs 10 11 w' := fun w' ho => by
    have h12 : 11 < w.heap.size := cell_lt (hU.2 0 (by decide)).1
    exact ⟨hG.only ho fun _ h => h.elim, ⟨fun i hi => (World.cell?_of_block (ho.block 10 (by omega) id)).trans (hU.1 i hi), fun i hi => ⟨(World.cell?_of_block (ho.block 11 h12 id)).trans (hU.2 i hi).1, (World.cell?_of_block (ho.block 11 h12 id)).trans (hU.2 i hi).2⟩⟩⟩
  cases hb : (o.set o.lz).good
  · rw [hb] at hg
    conv => arg 3; whnf
    refine W_seq ?_
    refine W_region ?_
    refine V (x_box (cs := o.cells) rfl) rfl ?_
    refine V (x_assign (by conv => lhs; whnf)) rfl ?_
    refine WL_nil ?_
    rw [hwA]
    refine W_seq ?_
    refine W_region ?_
    refine V (x_field0 fa23_2 rfl) rfl ?_
    refine S (x_store st3 rfl (by conv => lhs; whnf) rfl ((hO).cell 2 rfl) ((hO).free 2)) ?_
    refine WL_nil ?_
    refine W_seq ?_
    refine W_region ?_
    refine V (x_field0 fa23_4 rfl) rfl ?_
    refine S (x_store st4 rfl (by conv => lhs; whnf) rfl ((hO1b).cell 4 rfl) ((hO1b).free 4)) ?_
    refine WL_nil ?_
    rw [hwB]
    refine W_seq ?_
    refine W_seq ?_
    refine W_region ?_
    refine V (x_loadA Tryd.underlying23 (cs := (o.set o.lz).cells) szO rfl hO2) rfl ?_
    refine C (x_call1 cf16 (by conv => lhs; whnf)) rfl ?_
    refine hg.mono fun v w1 h1 => ?_
    obtain ⟨rfl, ho1⟩ := h1
    refine V (x_not rfl) rfl ?_
    refine V (x_move (by conv => lhs; whnf)) rfl ?_
    refine SG rfl (by decide) rfl ?_
    refine SG rfl (by decide) rfl ?_
    refine V (x_pick_t rfl (by conv => lhs; whnf)) rfl ?_
    refine V (x_move (by conv => lhs; whnf)) rfl ?_
    refine SG rfl (by decide) rfl ?_
    refine SG rfl (by decide) rfl ?_
    refine V (x_pick_t rfl (by conv => lhs; whnf)) rfl ?_
    refine WL_nil ?_
    refine W_true (rfl) ?_
    refine W_seq ?_
    refine W_region ?_
    refine V (x_assign (by conv => lhs; whnf)) rfl ?_
    refine WL_nil ?_
    refine W_ret ?_
    repeat (with_reducible (first | refine rt ?_ | refine rb ?_))
    exact bodyE_1 rfl rfl ⟨rfl, hS2.trans ho1⟩
  rw [hb] at hg
  by_cases hz1 : z < 0
  · conv => arg 3; whnf
    refine W_seq ?_
    refine W_region ?_
    refine V (x_box (cs := o.cells) rfl) rfl ?_
    refine V (x_assign (by conv => lhs; whnf)) rfl ?_
    refine WL_nil ?_
    rw [hwA]
    refine W_seq ?_
    refine W_region ?_
    refine V (x_field0 fa23_2 rfl) rfl ?_
    refine S (x_store st3 rfl (by conv => lhs; whnf) rfl ((hO).cell 2 rfl) ((hO).free 2)) ?_
    refine WL_nil ?_
    refine W_seq ?_
    refine W_region ?_
    refine V (x_field0 fa23_4 rfl) rfl ?_
    refine S (x_store st4 rfl (by conv => lhs; whnf) rfl ((hO1b).cell 4 rfl) ((hO1b).free 4)) ?_
    refine WL_nil ?_
    rw [hwB]
    refine W_seq ?_
    refine W_seq ?_
    refine W_region ?_
    refine V (x_loadA Tryd.underlying23 (cs := (o.set o.lz).cells) szO rfl hO2) rfl ?_
    refine C (x_call1 cf16 (by conv => lhs; whnf)) rfl ?_
    refine hg.mono fun v w1 h1 => ?_
    obtain ⟨rfl, ho1⟩ := h1
    refine V (x_not rfl) rfl ?_
    refine V (x_move (by conv => lhs; whnf)) rfl ?_
    refine VG rfl (x_move (by conv => lhs; whnf)) rfl ?_
    refine VG rfl (x_bin rfl rfl (bt (decide_eq_true (by omega)))) rfl ?_
    refine V (x_pick_f rfl (by conv => lhs; whnf)) rfl ?_
    refine V (x_move (by conv => lhs; whnf)) rfl ?_
    refine SG rfl (by decide) rfl ?_
    refine SG rfl (by decide) rfl ?_
    refine V (x_pick_t rfl (by conv => lhs; whnf)) rfl ?_
    refine WL_nil ?_
    refine W_true (rfl) ?_
    refine W_seq ?_
    refine W_region ?_
    refine V (x_assign (by conv => lhs; whnf)) rfl ?_
    refine WL_nil ?_
    refine W_ret ?_
    repeat (with_reducible (first | refine rt ?_ | refine rb ?_))
    exact bodyE_1 rfl rfl ⟨rfl, hS2.trans ho1⟩
  by_cases hz2 : 300 < z
  · conv => arg 3; whnf
    refine W_seq ?_
    refine W_region ?_
    refine V (x_box (cs := o.cells) rfl) rfl ?_
    refine V (x_assign (by conv => lhs; whnf)) rfl ?_
    refine WL_nil ?_
    rw [hwA]
    refine W_seq ?_
    refine W_region ?_
    refine V (x_field0 fa23_2 rfl) rfl ?_
    refine S (x_store st3 rfl (by conv => lhs; whnf) rfl ((hO).cell 2 rfl) ((hO).free 2)) ?_
    refine WL_nil ?_
    refine W_seq ?_
    refine W_region ?_
    refine V (x_field0 fa23_4 rfl) rfl ?_
    refine S (x_store st4 rfl (by conv => lhs; whnf) rfl ((hO1b).cell 4 rfl) ((hO1b).free 4)) ?_
    refine WL_nil ?_
    rw [hwB]
    refine W_seq ?_
    refine W_seq ?_
    refine W_region ?_
    refine V (x_loadA Tryd.underlying23 (cs := (o.set o.lz).cells) szO rfl hO2) rfl ?_
    refine C (x_call1 cf16 (by conv => lhs; whnf)) rfl ?_
    refine hg.mono fun v w1 h1 => ?_
    obtain ⟨rfl, ho1⟩ := h1
    refine V (x_not rfl) rfl ?_
    refine V (x_move (by conv => lhs; whnf)) rfl ?_
    refine VG rfl (x_move (by conv => lhs; whnf)) rfl ?_
    refine VG rfl (x_bin rfl rfl (bf (decide_eq_false (by omega)))) rfl ?_
    refine V (x_pick_f rfl (by conv => lhs; whnf)) rfl ?_
    refine V (x_move (by conv => lhs; whnf)) rfl ?_
    refine VG rfl (x_move (by conv => lhs; whnf)) rfl ?_
    refine VG rfl (x_bin rfl rfl (bt (decide_eq_true (by omega)))) rfl ?_
    refine V (x_pick_f rfl (by conv => lhs; whnf)) rfl ?_
    refine WL_nil ?_
    refine W_true (rfl) ?_
    refine W_seq ?_
    refine W_region ?_
    refine V (x_assign (by conv => lhs; whnf)) rfl ?_
    refine WL_nil ?_
    refine W_ret ?_
    repeat (with_reducible (first | refine rt ?_ | refine rb ?_))
    exact bodyE_1 rfl rfl ⟨rfl, hS2.trans ho1⟩
  obtain ⟨N, hN⟩ : ∃ N : Nat, z = (N : Int) := ⟨z.toNat, by omega⟩
  subst hN
  obtain ⟨hok1, hok2, hok3⟩ := Opt.ok hb
  have hcm : Cm (o.set o.lz).comma (encR (o.set o.lz).comma) := ⟨rfl, hok1⟩
  have hcl := hcm.len
  generalize hcmE : encR (o.set o.lz).comma = cm at *
  conv => arg 3; whnf
  refine W_seq ?_
  refine W_region ?_
  refine V (x_box (cs := o.cells) rfl) rfl ?_
  refine V (x_assign (by conv => lhs; whnf)) rfl ?_
  refine WL_nil ?_
  rw [hwA]
  refine W_seq ?_
  refine W_region ?_
  refine V (x_field0 fa23_2 rfl) rfl ?_
  refine S (x_store st3 rfl (by conv => lhs; whnf) rfl ((hO).cell 2 rfl) ((hO).free 2)) ?_
  refine WL_nil ?_
  refine W_seq ?_
  refine W_region ?_
  refine V (x_field0 fa23_4 rfl) rfl ?_
  refine S (x_store st4 rfl (by conv => lhs; whnf) rfl ((hO1b).cell 4 rfl) ((hO1b).free 4)) ?_
  refine WL_nil ?_
  rw [hwB]
  refine W_seq ?_
  refine W_seq ?_
  refine W_region ?_
  refine V (x_loadA Tryd.underlying23 (cs := (o.set o.lz).cells) szO rfl hO2) rfl ?_
  refine C (x_call1 cf16 (by conv => lhs; whnf)) rfl ?_
  refine hg.mono fun v w1 h1 => ?_
  obtain ⟨rfl, ho1⟩ := h1
  refine V (x_not rfl) rfl ?_
  refine V (x_move (by conv => lhs; whnf)) rfl ?_
  refine VG rfl (x_move (by conv => lhs; whnf)) rfl ?_
  refine VG rfl (x_bin rfl rfl (bf (decide_eq_false (by omega)))) rfl ?_
  refine V (x_pick_f rfl (by conv => lhs; whnf)) rfl ?_
  refine V (x_move (by conv => lhs; whnf)) rfl ?_
  refine VG rfl (x_move (by conv => lhs; whnf)) rfl ?_
  refine VG rfl (x_bin rfl rfl (bf (decide_eq_false (by omega)))) rfl ?_
  refine V (x_pick_f rfl (by conv => lhs; whnf)) rfl ?_
  refine WL_nil ?_
  refine W_false (rfl) ?_
  refine W_skip ?_
  refine W_seq ?_
  refine W_region ?_
  refine V (x_assign (by conv => lhs; whnf)) rfl ?_
  refine V (x_assign (by conv => lhs; whnf)) rfl ?_
  refine WL_nil ?_
  refine W_seq ?_
  refine W_seq ?_
  refine W_region ?_
  refine V (x_move (by conv => lhs; whnf)) rfl ?_
  refine V (x_move (by conv => lhs; whnf)) rfl ?_
  refine WL_nil ?_
  refine W_block ?_
  refine W_loop (fun K e w' => ∃ i : Nat, i ≤ N ∧ K = N - i ∧ e 3 = .pointer (some ⟨w.heap.size, 0, none⟩) ∧ e 5 = strV (qs (2 * i + 2)) ∧ e 6 = strV (qs i) ∧ e 22 = .int .i64 (N : Int) ∧ e 23 = .int .i64 (i : Int) ∧ Only (fun _ => False) wB w') (k0 := N) ⟨0, by omega, by omega, rfl, rfl, rfl, rfl, rfl, ho1⟩ ?_
  rintro K e w2 ⟨i, hi, rfl, e3, e5, e6, e22, e23, hO3⟩
  have eE : e = upd (upd (upd (upd (upd e 3 (.pointer (some ⟨w.heap.size, 0, none⟩))) 5 (strV (qs (2 * i + 2)))) 6 (strV (qs i))) 22 (.int .i64 (N : Int))) 23 (.int .i64 (i : Int)) := by simp only [upd_self e3, upd_self e5, upd_self e6, upd_self e22, upd_self e23]
  rw [eE]
  have hql : ∀ n, (qs n).length = n := fun n => by unfold qs; simp
  by_cases hlt : i < N
  · have h1 := hql (2 * i + 2)
    have h2 := hql i
    have a1 : qs (2 * i + 2) ++ [34, 34] = qs (2 * (i + 1) + 2) := (qs_add (2 * i + 2) 2).trans (by congr 1)
    have a2 : qs i ++ [34] = qs (i + 1) := qs_add i 1
    refine W_seq ?_
    refine W_region ?_
    refine V (x_bin rfl rfl (bt (decide_eq_true (by omega)))) rfl ?_
    refine WL_nil ?_
    refine W_seq ?_
    refine W_true (rfl) ?_
    refine W_skip ?_
    refine W_seq ?_
    refine W_block ?_
    refine W_seq ?_
    refine W_region ?_
    refine V (x_move (by conv => lhs; whnf)) rfl ?_
    refine V (x_sv_add (l := qs (2 * i + 2)) (m := [34, 34]) rfl rfl (by simp; omega)) rfl ?_
    refine V (x_assign (by conv => lhs; whnf)) rfl ?_
    refine WL_nil ?_
    refine W_region ?_
    refine V (x_move (by conv => lhs; whnf)) rfl ?_
    refine V (x_sv_add (l := qs i) (m := [34]) rfl rfl (by simp; omega)) rfl ?_
    refine V (x_assign (by conv => lhs; whnf)) rfl ?_
    refine WL_nil ?_
    refine W_region ?_
    refine V (x_bin rfl rfl (ib_addn (m := i + 1) (by omega) (by omega))) rfl ?_
    refine V (x_move (by conv => lhs; whnf)) rfl ?_
    refine WL_nil ?_
    repeat (first | with_reducible refine xt ?_ | with_reducible refine xb ?_ | with_reducible refine nt ?_ | with_reducible refine nb ?_ | with_reducible refine xn rfl ?_)
    exact ⟨N - (i + 1), by omega, i + 1, by omega, rfl, rfl, by rw [← a1]; rfl, by rw [← a2]; rfl, rfl, rfl, hO3⟩
  · have hiN : i = N := by omega
    subst hiN
    have hOi := hO2.only hO3 id
    have h1 := hql (2 * i + 2)
    refine W_seq ?_
    refine W_region ?_
    refine V (x_bin rfl rfl (bf (decide_eq_false (by omega)))) rfl ?_
    refine WL_nil ?_
    refine W_seq ?_
    refine W_false (rfl) ?_
    refine W_exit ?_
    repeat (first | with_reducible refine xt ?_ | with_reducible refine xb ?_ | with_reducible refine nt ?_ | with_reducible refine nb ?_ | with_reducible refine xn rfl ?_)
    refine W_cut (fun e' w' => ∃ vs rows, e' 6 = strV (qs i) ∧ e' 7 = vs ∧ e' 8 = .int .i64 0 ∧ TabV w' vs rows [[qs i, qs i]] ∧ Only (fun _ => False) w w') ?_ ?_
    · refine W_draw mixed ?_
      have hOd : Blk (dr w2) w.heap.size 23 (o.set o.lz).cells := hOi.drew
      have hbd : Only (fun _ => False) w (dr w2) := (hS2.trans hO3).trans (Only.drew _ _)
      have hall : ∀ w3, Only (fun _ => False) w w3 → Ret Tryd.prog 19 #[strV (((qs (2 * i + 2) ++ cm) ++ qs (2 * i + 2)) ++ [10]), .agg (o.set o.lz).cells.toArray] w3 (ImplOk w3 [[qs i, qs i]]) := fun w3 ho3 =>
        implReadAll_sv (((qs (2 * i + 2) ++ cm) ++ qs (2 * i + 2)) ++ [10]) (o.set o.lz) er w3 [[qs i, qs i]] (tabs w3 ho3).1 (tabs w3 ho3).2 hb rfl rfl (by rw [hcmE]; exact tab_quotes hcm _ _ i) (by simp [hql]; omega) (by simp)
      have hcomma := comma_ok (o.set o.lz) (dr w2)
      rw [hcmE] at hcomma
      refine D_pure (i := 0) (listed' := #[true, false, false, false, false, false, false, false, false, false, false, false, false, false]) (by kernel_rfl) (by kernel_rfl) (by kernel_rfl) rfl (by kernel_rfl) (fun _ => x_move (by conv => lhs; whnf)) rfl ?_
      refine D_pure (i := 4) (listed' := #[true, false, false, false, true, false, false, false, false, false, false, false, false, false]) (by kernel_rfl) (by kernel_rfl) (by kernel_rfl) rfl (by kernel_rfl) (fun _ => x_move (by conv => lhs; whnf)) rfl ?_
      refine D_still (i := 1) (listed' := #[true, true, false, false, true, false, false, false, false, false, false, false, false, false]) (by kernel_rfl) (by kernel_rfl) (by kernel_rfl) rfl (by kernel_rfl) (fun _ hgw => x_loadA Tryd.underlying23 (cs := (o.set o.lz).cells) szO rfl (hOd.grew hgw)) rfl ?_
      refine WA_two (i := 2) (j := 7) (by kernel_rfl) ?_ ?_
      · skip
        refine WO_call (listed' := #[true, true, true, false, true, false, false, false, false, false, false, false, false, false]) (by kernel_rfl) rfl (by kernel_rfl) (x_call1 cf18 (by conv => lhs; whnf)) rfl ?_
        refine hcomma.mono fun v w3 h3 => ?_
        obtain ⟨rfl, ho3⟩ := h3
        have hO4 := hOd.only ho3 id
        refine D_pure (i := 3) (listed' := #[true, true, true, true, true, false, false, false, false, false, false, false, false, false]) (by kernel_rfl) (by kernel_rfl) (by kernel_rfl) rfl (by kernel_rfl) (fun _ => x_sv_add rfl rfl (by simp [hql]; omega)) rfl ?_
        refine D_pure (i := 5) (listed' := #[true, true, true, true, true, true, false, false, false, false, false, false, false, false]) (by kernel_rfl) (by kernel_rfl) (by kernel_rfl) rfl (by kernel_rfl) (fun _ => x_sv_add rfl rfl (by simp [hql]; omega)) rfl ?_
        refine D_pure (i := 6) (listed' := #[true, true, true, true, true, true, true, false, false, false, false, false, false, false]) (by kernel_rfl) (by kernel_rfl) (by kernel_rfl) rfl (by kernel_rfl) (fun _ => x_sv_add (m := [10]) rfl rfl (by simp [hql]; omega)) rfl ?_
        refine D_one (i := 7) (listed' := #[true, true, true, true, true, true, true, true, false, false, false, false, false, false]) (by kernel_rfl) rfl (by kernel_rfl) (x_loadA Tryd.underlying23 (cs := (o.set o.lz).cells) szO rfl hO4) rfl ?_
        refine D_oneC (i := 8) (listed' := #[true, true, true, true, true, true, true, true, true, false, false, false, false, false]) (by kernel_rfl) rfl (by kernel_rfl) (x_call2 cf19 (by conv => lhs; whnf) (by conv => lhs; whnf)) rfl ?_
        refine (hall _ (hbd.trans ho3)).mono fun v w4 h4 => ?_
        obtain ⟨vs, rows, rfl, hV, ho4⟩ := h4
        refine D_pure (i := 9) (listed' := #[true, true, true, true, true, true, true, true, true, true, false, false, false, false]) (by kernel_rfl) (by kernel_rfl) (by kernel_rfl) rfl (by kernel_rfl) (fun _ => x_move (by conv => lhs; whnf)) rfl ?_
        refine D_pure (i := 10) (listed' := #[true, true, true, true, true, true, true, true, true, true, true, false, false, false]) (by kernel_rfl) (by kernel_rfl) (by kernel_rfl) rfl (by kernel_rfl) (fun _ => x_extract rfl rfl) rfl ?_
        refine D_pure (i := 11) (listed' := #[true, true, true, true, true, true, true, true, true, true, true, true, false, false]) (by kernel_rfl) (by kernel_rfl) (by kernel_rfl) rfl (by kernel_rfl) (fun _ => x_extract rfl rfl) rfl ?_
        refine D_pure (i := 12) (listed' := #[true, true, true, true, true, true, true, true, true, true, true, true, true, false]) (by kernel_rfl) (by kernel_rfl) (by kernel_rfl) rfl (by kernel_rfl) (fun _ => x_assign (by conv => lhs; whnf)) rfl ?_
        refine D_pure (i := 13) (listed' := #[true, true, true, true, true, true, true, true, true, true, true, true, true, true]) (by kernel_rfl) (by kernel_rfl) (by kernel_rfl) rfl (by kernel_rfl) (fun _ => x_assign (by conv => lhs; whnf)) rfl ?_
        refine WA_done (by kernel_rfl) ?_
        exact ⟨vs, rows, rfl, rfl, rfl, hV, (hbd.trans ho3).trans ho4⟩
      · skip
        refine WO_val (listed' := #[true, true, false, false, true, false, false, true, false, false, false, false, false, false]) (by kernel_rfl) rfl (by kernel_rfl) (x_loadA Tryd.underlying23 (cs := (o.set o.lz).cells) szO rfl hOd) rfl ?_
        refine D_oneC (i := 2) (listed' := #[true, true, true, false, true, false, false, true, false, false, false, false, false, false]) (by kernel_rfl) rfl (by kernel_rfl) (x_call1 cf18 (by conv => lhs; whnf)) rfl ?_
        refine hcomma.mono fun v w3 h3 => ?_
        obtain ⟨rfl, ho3⟩ := h3
        refine D_pure (i := 3) (listed' := #[true, true, true, true, true, false, false, true, false, false, false, false, false, false]) (by kernel_rfl) (by kernel_rfl) (by kernel_rfl) rfl (by kernel_rfl) (fun _ => x_sv_add rfl rfl (by simp [hql]; omega)) rfl ?_
        refine D_pure (i := 5) (listed' := #[true, true, true, true, true, true, false, true, false, false, false, false, false, false]) (by kernel_rfl) (by kernel_rfl) (by kernel_rfl) rfl (by kernel_rfl) (fun _ => x_sv_add rfl rfl (by simp [hql]; omega)) rfl ?_
        refine D_pure (i := 6) (listed' := #[true, true, true, true, true, true, true, true, false, false, false, false, false, false]) (by kernel_rfl) (by kernel_rfl) (by kernel_rfl) rfl (by kernel_rfl) (fun _ => x_sv_add (m := [10]) rfl rfl (by simp [hql]; omega)) rfl ?_
        refine D_oneC (i := 8) (listed' := #[true, true, true, true, true, true, true, true, true, false, false, false, false, false]) (by kernel_rfl) rfl (by kernel_rfl) (x_call2 cf19 (by conv => lhs; whnf) (by conv => lhs; whnf)) rfl ?_
        refine (hall _ (hbd.trans ho3)).mono fun v w4 h4 => ?_
        obtain ⟨vs, rows, rfl, hV, ho4⟩ := h4
        refine D_pure (i := 9) (listed' := #[true, true, true, true, true, true, true, true, true, true, false, false, false, false]) (by kernel_rfl) (by kernel_rfl) (by kernel_rfl) rfl (by kernel_rfl) (fun _ => x_move (by conv => lhs; whnf)) rfl ?_
        refine D_pure (i := 10) (listed' := #[true, true, true, true, true, true, true, true, true, true, true, false, false, false]) (by kernel_rfl) (by kernel_rfl) (by kernel_rfl) rfl (by kernel_rfl) (fun _ => x_extract rfl rfl) rfl ?_
        refine D_pure (i := 11) (listed' := #[true, true, true, true, true, true, true, true, true, true, true, true, false, false]) (by kernel_rfl) (by kernel_rfl) (by kernel_rfl) rfl (by kernel_rfl) (fun _ => x_extract rfl rfl) rfl ?_
        refine D_pure (i := 12) (listed' := #[true, true, true, true, true, true, true, true, true, true, true, true, true, false]) (by kernel_rfl) (by kernel_rfl) (by kernel_rfl) rfl (by kernel_rfl) (fun _ => x_assign (by conv => lhs; whnf)) rfl ?_
        refine D_pure (i := 13) (listed' := #[true, true, true, true, true, true, true, true, true, true, true, true, true, true]) (by kernel_rfl) (by kernel_rfl) (by kernel_rfl) rfl (by kernel_rfl) (fun _ => x_assign (by conv => lhs; whnf)) rfl ?_
        refine WA_done (by kernel_rfl) ?_
        exact ⟨vs, rows, rfl, rfl, rfl, hV, (hbd.trans ho3).trans ho4⟩
    · rintro e' w3 ⟨vs, rows, f6, f7, f8, hV, ho3⟩
      have eF : e' = upd (upd (upd e' 6 (strV (qs i))) 7 vs) 8 (.int .i64 0) := by simp only [upd_self f6, upd_self f7, upd_self f8]
      rw [eF]
      refine W_seq ?_
      refine W_region ?_
      refine V (x_move (by conv => lhs; whnf)) rfl ?_
      refine V (x_bin rfl rfl (bt rfl)) rfl ?_
      refine V (x_move (by conv => lhs; whnf)) rfl ?_
      refine VG rfl (x_move (by conv => lhs; whnf)) rfl ?_
      refine VG rfl (x_move (by conv => lhs; whnf)) rfl ?_
      refine VG rfl (x_move (by conv => lhs; whnf)) rfl ?_
      refine VG rfl (x_bs2 Tryd.underlying30 sz9 zv9 rfl rfl rfl rfl rfl) rfl ?_
      refine VG rfl (x_bs1 Tryd.underlying27 sz30 zv30 rfl rfl rfl) rfl ?_
      refine CG rfl (x_call2 cf20 (by conv => lhs; whnf) (by conv => lhs; whnf)) rfl ?_
      have hA1 : Only (fun _ => False) w3 (w3.alloc (.cells [strV (qs i), strV (qs i)].toArray 9)) := Only.alloc _ _ _
      have hA2 := Only.alloc (fun _ => False) (w3.alloc (.cells [strV (qs i), strV (qs i)].toArray 9)) (.cells [Value.slice (some ⟨w3.heap.size, 0, none⟩) 2 2].toArray 30)
      have hr : RdRow _ (.slice (some ⟨w3.heap.size, 0, none⟩) 2 2) [qs i, qs i] := RdRow.new (rdRow_blk (Blk.new w3 9 _) rfl) hA2
      have hT2 := rdTab_one (Blk.new _ 30 _) hr
      refine (Same_ok _ _ [[qs i, qs i]] _ ((hV.read.new hA1).new hA2) hT2 (by simp) (by intro fs hfs; rw [List.mem_singleton] at hfs; subst hfs; simp)).mono fun v w4 h4 => ?_
      obtain ⟨rfl, ho4⟩ := h4
      refine V (x_pick_t rfl (by conv => lhs; whnf)) rfl ?_
      refine V (x_assign (by conv => lhs; whnf)) rfl ?_
      refine WL_nil ?_
      refine W_ret ?_
      repeat (with_reducible (first | refine rt ?_ | refine rb ?_))
      exact bodyE_1 rfl rfl ⟨rfl, ((ho3.trans hA1).trans hA2).trans ho4⟩
end Go.Proofs.YtcdhbfhijkdfoaaDoor
