/-
  FnLazyOpen: behind a written table, a quoted field without an end.
-/
import Derived.Test.YtcdhbfhijkdfoaaDoorTh
namespace Go.EC
theorem VGE {P : Program} {n : Nat} {ops : Array Oper} {rest : List Oper} {e : Env} {w : World} {d : Nat} {op : Op} {ty : TypeId} {pos : String} {af : Array Edge} {j : Nat} {b : Bool} {R : Value → World → Prop} {Q : Exit → Env → World → Prop} (hy : yl ops e j = some b)
    (hex : ∃ v w', (execOp (ev e) ⟨some d, op, ty, pos, af, some (j, b)⟩).run P w = .ok (.value v) w' ∧ R v w') (hd : Nat.blt d n = true) (h : ∀ v w', R v w' → WL P n ops Q rest (upd e d v) w') : WL P n ops Q (⟨some d, op, ty, pos, af, some (j, b)⟩ :: rest) e w := by
  obtain ⟨v, w', hrun, hR⟩ := hex
  exact VG hy hrun hd (h v w' hR)
end Go.EC
namespace Go.Proofs.YtcdhbfhijkdfoaaDoor
open Go.EC Go.RowKit
theorem own_new {va : Value} {n : Nat} (h : va.ownBlock = (Value.slice none 0 0).ownBlock ∨ va.ownBlock = some n) : ∀ k, k < n → ¬ va.ownBlock = some k := fun k hk hv => by
  rcases h with h6 | h6
  · rw [h6] at hv; cases hv
  · rw [h6] at hv; injection hv with hv; omega
theorem more_read {w3 w5 : World} {tbl : List (List Bytes)} {fs : List Bytes} {rows3 : List Value} {vb u : Value} (hn5 : Only (fun _ => False) w3 w5) (hrd3 : ∀ (j : Nat) u fs, rows3[j]? = some u → tbl[j]? = some fs → RdRow w3 u fs) (hl3 : rows3.length = tbl.length)
    (hown5 : Own w5 30 1 vb (tbl.length + 1) (rows3 ++ [u])) (hrow5 : RdRow w5 u fs) : RdTab w5 vb (tbl ++ [fs]) := by
  obtain ⟨A, c, hv, hc⟩ := hown5.cells
  refine ⟨A, c, rows3 ++ [u], by rw [hv]; simp, by simp [hl3], hc, fun j u' fs' hj hf => ?_⟩
  rcases Nat.lt_trichotomy j rows3.length with h1 | h1 | h1
  · rw [List.getElem?_append_left h1] at hj
    rw [List.getElem?_append_left (by omega)] at hf
    exact (hrd3 j u' fs' hj hf).new hn5
  · subst h1
    rw [hl3] at hf
    simp at hj hf
    subst hj hf
    exact hrow5
  · rw [List.getElem?_eq_none (by simp; omega)] at hj
    cases hj
theorem fields_more {cm : Bytes} {lz : Bool} {acc fs : List Bytes} {rest s : Bytes} : ∀ (u cur : Bytes), (34 : UInt8) ∉ u → Fields cm lz (some (cur ++ u)) s acc fs rest → Fields cm lz (some cur) (u ++ s) acc fs rest
  | [], cur, _, h => by simpa using h
  | b :: u, cur, hu, h => by
    simp only [List.mem_cons, not_or] at hu
    exact Fields.more (fun hb => hu.1 hb.symm) (fields_more u (cur ++ [b]) hu.2 (by rw [List.append_assoc]; exact h))
theorem tab_open {cm tail : Bytes} {ct : Int} (h34 : (34 : UInt8) ∉ tail) (h13 : (13 : UInt8) ∉ tail) : Tab cm true ct (34 :: tail) [[tail]] := by
  refine Tab.cons (by simp) (by simp) (by simp only [List.mem_cons, not_or]; exact ⟨by decide, h13⟩) (fun _ => .inl rfl) (Fields.opened ?_) Tab.nil
  have := fields_more (cm := cm) (lz := true) (s := []) tail [] h34 (Fields.lazyEnd (acc := []) rfl)
  simpa using this
/-- Tables with a row more. -/
theorem rdTab_own {w : World} {v : Value} {rows : List Value} {tbl : List (List Bytes)} (h : Own w 30 1 v tbl.length rows) (hr : ∀ (j : Nat) u fs, rows[j]? = some u → tbl[j]? = some fs → RdRow w u fs) : RdTab w v tbl := by
  obtain ⟨A, c, hv, hc⟩ := h.cells
  have hl := h.len
  rw [Nat.mul_one] at hl
  exact ⟨A, c, rows, hv, hl, hc, hr⟩
theorem lazyOpen (v0 : Value) (tbl : List (List Bytes)) (tail : Bytes) (o : Opt) (er : Nat → Addr) (w : World) (hG : Glob w er) (hU : Lib.Utf8Tabs 10 11 w) (hT : RdTab w v0 tbl) (hwt : wTab tbl ≤ 1048576) (htl : tail.length ≤ 1048576) :
    Ret Tryd.prog 5 #[v0, strV tail, .agg o.cells.toArray] w fun v w' => v = .bool true ∧ Only (fun _ => False) w w' := by
  refine ret_of_W Tryd.func5 rfl (Nat.le_of_ble_eq_true rfl) ?_
  have htn := wTab_len tbl
  have hrow : ∀ fs ∈ tbl, fs.length ≤ 1048576 ∧ ∀ f ∈ fs, f.length ≤ 1048576 := fun fs hfs => by
    have h1 := wTab_mem hfs
    have h2 := wRow_len fs
    exact ⟨by omega, fun f hf => by have := wRow_mem hf; omega⟩
  obtain ⟨A0, c0, rows0, hv0, hl0, hcs0, hrd0⟩ := id hT
  have hO := Blk.new w 23 o.cells
  have hO1 : Only (fun _ => False) w (w.alloc (.cells o.cells.toArray 23)) := Only.alloc _ _ _
  generalize hwA : w.alloc (.cells o.cells.toArray 23) = wA at *
  have hOa := hO.set 2 (.int .i64 (-1))
  have hOb := hOa.set 3 (.bool true)
  have hO2 : Blk (((wA.setCell ⟨w.heap.size, 2, none⟩ (.int .i64 (-1))).setCell ⟨w.heap.size, 3, none⟩ (.bool true)).setCell ⟨w.heap.size, 4, none⟩ (.bool false)) w.heap.size 23 (o.set true).cells := hOb.set 4 _
  have hS2 : Only (fun _ => False) w (((wA.setCell ⟨w.heap.size, 2, none⟩ (.int .i64 (-1))).setCell ⟨w.heap.size, 3, none⟩ (.bool true)).setCell ⟨w.heap.size, 4, none⟩ (.bool false)) :=
    hO1.then_ (((Only.setCell (· = w.heap.size) _ rfl _).trans (Only.setCell (· = w.heap.size) _ rfl _)).trans (Only.setCell (· = w.heap.size) _ rfl _)) fun i hi hh => by omega
  generalize hwB : ((wA.setCell ⟨w.heap.size, 2, none⟩ (.int .i64 (-1))).setCell ⟨w.heap.size, 3, none⟩ (.bool true)).setCell ⟨w.heap.size, 4, none⟩ (.bool false) = wB at *
  have hg := good_ok (o.set true) wB
  have tabs : ∀ w', Only (fun _ => False) w w' → Glob w' er ∧ Lib.Utf8Tabs 10 11 w' := fun w' ho => by
    have h12 : 11 < w.heap.size := cell_lt (hU.2 0 (by decide)).1
    exact ⟨hG.only ho fun _ h => h.elim, ⟨fun i hi => (World.cell?_of_block (ho.block 10 (by omega) id)).trans (hU.1 i hi), fun i hi => ⟨(World.cell?_of_block (ho.block 11 h12 id)).trans (hU.2 i hi).1, (World.cell?_of_block (ho.block 11 h12 id)).trans (hU.2 i hi).2⟩⟩⟩
  have hprop : ∀ w1, Only (fun _ => False) w w1 → Ret Tryd.prog 21 #[v0] w1 fun u w' => u = .bool (properB tbl) ∧ w1 = w' := fun w1 ho => proper_ok v0 tbl w1 (hT.new ho) (by omega) fun fs hfs => ⟨by have := (hrow fs hfs).1; omega, fun f hf => by have := (hrow fs hfs).2 f hf; omega⟩
  have hH34 : ∀ w1, Ret Tryd.prog 17 #[strV tail, strV [34]] w1 fun v w' => v = .bool (hasB tail [34]) ∧ w1 = w' := fun w1 => Has_ok tail [34] w1 (by omega) (by simp)
  have hH13 : ∀ w1, Ret Tryd.prog 17 #[strV tail, strV [13]] w1 fun v w' => v = .bool (hasB tail [13]) ∧ w1 = w' := fun w1 => Has_ok tail [13] w1 (by omega) (by simp)
  cases hb : (o.set true).good
  · rw [hb] at hg
    conv => arg 3; whnf
    refine W_seq ?_
    refine W_region ?_
    refine V (x_box (cs := o.cells) rfl) rfl ?_
    refine V (x_assign (by conv => lhs; whnf)) rfl ?_
    refine WL_nil ?_
    rw [hwA]
    refine W_seq ?_
    refine W_region ?_
    refine V (x_field0 fa23_2 rfl) rfl ?_
    refine S (x_store st3 rfl (by conv => lhs; whnf) rfl ((hO).cell 2 rfl) ((hO).free 2)) ?_
    refine WL_nil ?_
    refine W_seq ?_
    refine W_region ?_
    refine V (x_field0 fa23_3 rfl) rfl ?_
    refine S (x_store st4 rfl (by conv => lhs; whnf) rfl ((hOa).cell 3 rfl) ((hOa).free 3)) ?_
    refine WL_nil ?_
    refine W_seq ?_
    refine W_region ?_
    refine V (x_field0 fa23_4 rfl) rfl ?_
    refine S (x_store st4 rfl (by conv => lhs; whnf) rfl ((hOb).cell 4 rfl) ((hOb).free 4)) ?_
    refine WL_nil ?_
    rw [hwB]
    refine W_seq ?_
    refine W_seq ?_
    refine W_region ?_
    refine V (x_loadA Tryd.underlying23 (cs := (o.set true).cells) szO rfl hO2) rfl ?_
    refine C (x_call1 cf16 (by conv => lhs; whnf)) rfl ?_
    refine hg.mono fun v w1 h1 => ?_
    obtain ⟨rfl, ho1⟩ := h1
    refine V (x_not rfl) rfl ?_
    refine V (x_move (by conv => lhs; whnf)) rfl ?_
    refine SG rfl (by decide) rfl ?_
    refine SG rfl (by decide) rfl ?_
    refine SG rfl (by decide) rfl ?_
    refine V (x_pick_t rfl (by conv => lhs; whnf)) rfl ?_
    refine V (x_move (by conv => lhs; whnf)) rfl ?_
    refine SG rfl (by decide) rfl ?_
    refine SG rfl (by decide) rfl ?_
    refine V (x_pick_t rfl (by conv => lhs; whnf)) rfl ?_
    refine V (x_move (by conv => lhs; whnf)) rfl ?_
    refine SG rfl (by decide) rfl ?_
    refine SG rfl (by decide) rfl ?_
    refine V (x_pick_t rfl (by conv => lhs; whnf)) rfl ?_
    refine WL_nil ?_
    refine W_true (rfl) ?_
    refine W_seq ?_
    refine W_region ?_
    refine V (x_assign (by conv => lhs; whnf)) rfl ?_
    refine WL_nil ?_
    refine W_ret ?_
    repeat (with_reducible (first | refine rt ?_ | refine rb ?_))
    exact bodyE_1 rfl rfl ⟨rfl, hS2.trans ho1⟩
  rw [hb] at hg
  cases hpr : properB tbl
  · rw [hpr] at hprop
    conv => arg 3; whnf
    refine W_seq ?_
    refine W_region ?_
    refine V (x_box (cs := o.cells) rfl) rfl ?_
    refine V (x_assign (by conv => lhs; whnf)) rfl ?_
    refine WL_nil ?_
    rw [hwA]
    refine W_seq ?_
    refine W_region ?_
    refine V (x_field0 fa23_2 rfl) rfl ?_
    refine S (x_store st3 rfl (by conv => lhs; whnf) rfl ((hO).cell 2 rfl) ((hO).free 2)) ?_
    refine WL_nil ?_
    refine W_seq ?_
    refine W_region ?_
    refine V (x_field0 fa23_3 rfl) rfl ?_
    refine S (x_store st4 rfl (by conv => lhs; whnf) rfl ((hOa).cell 3 rfl) ((hOa).free 3)) ?_
    refine WL_nil ?_
    refine W_seq ?_
    refine W_region ?_
    refine V (x_field0 fa23_4 rfl) rfl ?_
    refine S (x_store st4 rfl (by conv => lhs; whnf) rfl ((hOb).cell 4 rfl) ((hOb).free 4)) ?_
    refine WL_nil ?_
    rw [hwB]
    refine W_seq ?_
    refine W_seq ?_
    refine W_region ?_
    refine V (x_loadA Tryd.underlying23 (cs := (o.set true).cells) szO rfl hO2) rfl ?_
    refine C (x_call1 cf16 (by conv => lhs; whnf)) rfl ?_
    refine hg.mono fun v w1 h1 => ?_
    obtain ⟨rfl, ho1⟩ := h1
    refine V (x_not rfl) rfl ?_
    refine V (x_move (by conv => lhs; whnf)) rfl ?_
    refine VG rfl (x_move (by conv => lhs; whnf)) rfl ?_
    refine CG rfl (x_call1 cf21 (by conv => lhs; whnf)) rfl ?_
    refine (hprop _ (hS2.trans ho1)).mono fun v w2 h2 => ?_
    obtain ⟨rfl, rfl⟩ := h2
    refine VG rfl (x_not rfl) rfl ?_
    refine V (x_pick_f rfl (by conv => lhs; whnf)) rfl ?_
    refine V (x_move (by conv => lhs; whnf)) rfl ?_
    refine SG rfl (by decide) rfl ?_
    refine SG rfl (by decide) rfl ?_
    refine V (x_pick_t rfl (by conv => lhs; whnf)) rfl ?_
    refine V (x_move (by conv => lhs; whnf)) rfl ?_
    refine SG rfl (by decide) rfl ?_
    refine SG rfl (by decide) rfl ?_
    refine V (x_pick_t rfl (by conv => lhs; whnf)) rfl ?_
    refine WL_nil ?_
    refine W_true (rfl) ?_
    refine W_seq ?_
    refine W_region ?_
    refine V (x_assign (by conv => lhs; whnf)) rfl ?_
    refine WL_nil ?_
    refine W_ret ?_
    repeat (with_reducible (first | refine rt ?_ | refine rb ?_))
    exact bodyE_1 rfl rfl ⟨rfl, hS2.trans ho1⟩
  rw [hpr] at hprop
  cases h34 : hasB tail [34]
  case true =>
    rw [h34] at hH34
    conv => arg 3; whnf
    refine W_seq ?_
    refine W_region ?_
    refine V (x_box (cs := o.cells) rfl) rfl ?_
    refine V (x_assign (by conv => lhs; whnf)) rfl ?_
    refine WL_nil ?_
    rw [hwA]
    refine W_seq ?_
    refine W_region ?_
    refine V (x_field0 fa23_2 rfl) rfl ?_
    refine S (x_store st3 rfl (by conv => lhs; whnf) rfl ((hO).cell 2 rfl) ((hO).free 2)) ?_
    refine WL_nil ?_
    refine W_seq ?_
    refine W_region ?_
    refine V (x_field0 fa23_3 rfl) rfl ?_
    refine S (x_store st4 rfl (by conv => lhs; whnf) rfl ((hOa).cell 3 rfl) ((hOa).free 3)) ?_
    refine WL_nil ?_
    refine W_seq ?_
    refine W_region ?_
    refine V (x_field0 fa23_4 rfl) rfl ?_
    refine S (x_store st4 rfl (by conv => lhs; whnf) rfl ((hOb).cell 4 rfl) ((hOb).free 4)) ?_
    refine WL_nil ?_
    rw [hwB]
    refine W_seq ?_
    refine W_seq ?_
    refine W_region ?_
    refine V (x_loadA Tryd.underlying23 (cs := (o.set true).cells) szO rfl hO2) rfl ?_
    refine C (x_call1 cf16 (by conv => lhs; whnf)) rfl ?_
    refine hg.mono fun v w1 h1 => ?_
    obtain ⟨rfl, ho1⟩ := h1
    refine V (x_not rfl) rfl ?_
    refine V (x_move (by conv => lhs; whnf)) rfl ?_
    refine VG rfl (x_move (by conv => lhs; whnf)) rfl ?_
    refine CG rfl (x_call1 cf21 (by conv => lhs; whnf)) rfl ?_
    refine (hprop _ (hS2.trans ho1)).mono fun v w2 h2 => ?_
    obtain ⟨rfl, rfl⟩ := h2
    refine VG rfl (x_not rfl) rfl ?_
    refine V (x_pick_f rfl (by conv => lhs; whnf)) rfl ?_
    refine V (x_move (by conv => lhs; whnf)) rfl ?_
    refine VG rfl (x_move (by conv => lhs; whnf)) rfl ?_
    refine CG rfl (x_call2 cf17 (by conv => lhs; whnf) (by conv => lhs; whnf)) rfl ?_
    refine (hH34 _).mono fun v w2 h2 => ?_
    obtain ⟨rfl, rfl⟩ := h2
    refine V (x_pick_f rfl (by conv => lhs; whnf)) rfl ?_
    refine V (x_move (by conv => lhs; whnf)) rfl ?_
    refine SG rfl (by decide) rfl ?_
    refine SG rfl (by decide) rfl ?_
    refine V (x_pick_t rfl (by conv => lhs; whnf)) rfl ?_
    refine WL_nil ?_
    refine W_true (rfl) ?_
    refine W_seq ?_
    refine W_region ?_
    refine V (x_assign (by conv => lhs; whnf)) rfl ?_
    refine WL_nil ?_
    refine W_ret ?_
    repeat (with_reducible (first | refine rt ?_ | refine rb ?_))
    exact bodyE_1 rfl rfl ⟨rfl, hS2.trans ho1⟩
  rw [h34] at hH34
  cases h13 : hasB tail [13]
  case true =>
    rw [h13] at hH13
    conv => arg 3; whnf
    refine W_seq ?_
    refine W_region ?_
    refine V (x_box (cs := o.cells) rfl) rfl ?_
    refine V (x_assign (by conv => lhs; whnf)) rfl ?_
    refine WL_nil ?_
    rw [hwA]
    refine W_seq ?_
    refine W_region ?_
    refine V (x_field0 fa23_2 rfl) rfl ?_
    refine S (x_store st3 rfl (by conv => lhs; whnf) rfl ((hO).cell 2 rfl) ((hO).free 2)) ?_
    refine WL_nil ?_
    refine W_seq ?_
    refine W_region ?_
    refine V (x_field0 fa23_3 rfl) rfl ?_
    refine S (x_store st4 rfl (by conv => lhs; whnf) rfl ((hOa).cell 3 rfl) ((hOa).free 3)) ?_
    refine WL_nil ?_
    refine W_seq ?_
    refine W_region ?_
    refine V (x_field0 fa23_4 rfl) rfl ?_
    refine S (x_store st4 rfl (by conv => lhs; whnf) rfl ((hOb).cell 4 rfl) ((hOb).free 4)) ?_
    refine WL_nil ?_
    rw [hwB]
    refine W_seq ?_
    refine W_seq ?_
    refine W_region ?_
    refine V (x_loadA Tryd.underlying23 (cs := (o.set true).cells) szO rfl hO2) rfl ?_
    refine C (x_call1 cf16 (by conv => lhs; whnf)) rfl ?_
    refine hg.mono fun v w1 h1 => ?_
    obtain ⟨rfl, ho1⟩ := h1
    refine V (x_not rfl) rfl ?_
    refine V (x_move (by conv => lhs; whnf)) rfl ?_
    refine VG rfl (x_move (by conv => lhs; whnf)) rfl ?_
    refine CG rfl (x_call1 cf21 (by conv => lhs; whnf)) rfl ?_
    refine (hprop _ (hS2.trans ho1)).mono fun v w2 h2 => ?_
    obtain ⟨rfl, rfl⟩ := h2
    refine VG rfl (x_not rfl) rfl ?_
    refine V (x_pick_f rfl (by conv => lhs; whnf)) rfl ?_
    refine V (x_move (by conv => lhs; whnf)) rfl ?_
    refine VG rfl (x_move (by conv => lhs; whnf)) rfl ?_
    refine CG rfl (x_call2 cf17 (by conv => lhs; whnf) (by conv => lhs; whnf)) rfl ?_
    refine (hH34 _).mono fun v w2 h2 => ?_
    obtain ⟨rfl, rfl⟩ := h2
    refine V (x_pick_f rfl (by conv => lhs; whnf)) rfl ?_
    refine V (x_move (by conv => lhs; whnf)) rfl ?_
    refine VG rfl (x_move (by conv => lhs; whnf)) rfl ?_
    refine CG rfl (x_call2 cf17 (by conv => lhs; whnf) (by conv => lhs; whnf)) rfl ?_
    refine (hH13 _).mono fun v w2 h2 => ?_
    obtain ⟨rfl, rfl⟩ := h2
    refine V (x_pick_f rfl (by conv => lhs; whnf)) rfl ?_
    refine WL_nil ?_
    refine W_true (rfl) ?_
    refine W_seq ?_
    refine W_region ?_
    refine V (x_assign (by conv => lhs; whnf)) rfl ?_
    refine WL_nil ?_
    refine W_ret ?_
    repeat (with_reducible (first | refine rt ?_ | refine rb ?_))
    exact bodyE_1 rfl rfl ⟨rfl, hS2.trans ho1⟩
  rw [h13] at hH13
  have hsp := properB_spec hpr
  obtain ⟨hok1, hok2, hok3⟩ := Opt.ok hb
  have hcm : Cm (o.set true).comma (encR (o.set true).comma) := ⟨rfl, hok1⟩
  have hcl := hcm.len
  generalize hcmE : encR (o.set true).comma = cm at *
  conv => arg 3; whnf
  refine W_seq ?_
  refine W_region ?_
  refine V (x_box (cs := o.cells) rfl) rfl ?_
  refine V (x_assign (by conv => lhs; whnf)) rfl ?_
  refine WL_nil ?_
  rw [hwA]
  refine W_seq ?_
  refine W_region ?_
  refine V (x_field0 fa23_2 rfl) rfl ?_
  refine S (x_store st3 rfl (by conv => lhs; whnf) rfl ((hO).cell 2 rfl) ((hO).free 2)) ?_
  refine WL_nil ?_
  refine W_seq ?_
  refine W_region ?_
  refine V (x_field0 fa23_3 rfl) rfl ?_
  refine S (x_store st4 rfl (by conv => lhs; whnf) rfl ((hOa).cell 3 rfl) ((hOa).free 3)) ?_
  refine WL_nil ?_
  refine W_seq ?_
  refine W_region ?_
  refine V (x_field0 fa23_4 rfl) rfl ?_
  refine S (x_store st4 rfl (by conv => lhs; whnf) rfl ((hOb).cell 4 rfl) ((hOb).free 4)) ?_
  refine WL_nil ?_
  rw [hwB]
  refine W_seq ?_
  refine W_seq ?_
  refine W_region ?_
  refine V (x_loadA Tryd.underlying23 (cs := (o.set true).cells) szO rfl hO2) rfl ?_
  refine C (x_call1 cf16 (by conv => lhs; whnf)) rfl ?_
  refine hg.mono fun v w1 h1 => ?_
  obtain ⟨rfl, ho1⟩ := h1
  refine V (x_not rfl) rfl ?_
  refine V (x_move (by conv => lhs; whnf)) rfl ?_
  refine VG rfl (x_move (by conv => lhs; whnf)) rfl ?_
  refine CG rfl (x_call1 cf21 (by conv => lhs; whnf)) rfl ?_
  refine (hprop _ (hS2.trans ho1)).mono fun v w2 h2 => ?_
  obtain ⟨rfl, rfl⟩ := h2
  refine VG rfl (x_not rfl) rfl ?_
  refine V (x_pick_f rfl (by conv => lhs; whnf)) rfl ?_
  refine V (x_move (by conv => lhs; whnf)) rfl ?_
  refine VG rfl (x_move (by conv => lhs; whnf)) rfl ?_
  refine CG rfl (x_call2 cf17 (by conv => lhs; whnf) (by conv => lhs; whnf)) rfl ?_
  refine (hH34 _).mono fun v w2 h2 => ?_
  obtain ⟨rfl, rfl⟩ := h2
  refine V (x_pick_f rfl (by conv => lhs; whnf)) rfl ?_
  refine V (x_move (by conv => lhs; whnf)) rfl ?_
  refine VG rfl (x_move (by conv => lhs; whnf)) rfl ?_
  refine CG rfl (x_call2 cf17 (by conv => lhs; whnf) (by conv => lhs; whnf)) rfl ?_
  refine (hH13 _).mono fun v w2 h2 => ?_
  obtain ⟨rfl, rfl⟩ := h2
  refine V (x_pick_f rfl (by conv => lhs; whnf)) rfl ?_
  refine WL_nil ?_
  refine W_false (rfl) ?_
  refine W_skip ?_
  refine W_seq ?_
  refine W_region ?_
  refine V (x_assign (by conv => lhs; whnf)) rfl ?_
  refine WL_nil ?_
  refine W_seq ?_
  refine W_seq ?_
  refine W_region ?_
  refine V (x_move (by conv => lhs; whnf)) rfl ?_
  refine V (x_len_slice Tryd.underlying27 hv0) rfl ?_
  refine V (x_move (by conv => lhs; whnf)) rfl ?_
  refine WL_nil ?_
  have hpre : ∀ i, (tabQ cm (tbl.take i)).length ≤ (tabQ cm tbl).length := fun i => by
    have h1 : tabQ cm tbl = tabQ cm (tbl.take i) ++ tabQ cm (tbl.drop i) := by
      have h2 := tabQ_app cm (tbl.take i) (tbl.drop i)
      rw [List.take_append_drop] at h2; exact h2
    rw [h1, List.length_append]; omega
  have htq := tabQ_len hcl.2 tbl
  refine W_block ?_
  refine W_loop (fun K e w' => ∃ i : Nat, i ≤ tbl.length ∧ K = tbl.length - i ∧ e 0 = v0 ∧ e 1 = strV tail ∧ e 5 = .pointer (some ⟨w.heap.size, 0, none⟩) ∧ e 7 = strV (tabQ cm (tbl.take i)) ∧ e 31 = v0 ∧ e 32 = .int .i64 (tbl.length : Int) ∧ e 33 = .int .i64 (i : Int) ∧ Only (fun _ => False) wB w') (k0 := tbl.length) ⟨0, Nat.zero_le _, by omega, rfl, rfl, rfl, rfl, rfl, rfl, rfl, ho1⟩ ?_
  rintro K e w2 ⟨i, hi, rfl, e0, e1, e5, e7, e31, e32, e33, hO3⟩
  have hOi := hO2.only hO3 id
  have hw2 := hS2.trans hO3
  by_cases hlt : i < tbl.length
  · obtain ⟨g1, o1, d1, u1, hwv, hc1, hr1⟩ := (hT.new hw2).at_ hlt
    have hfn := hrow _ (List.getElem_mem hlt)
    have hwm := wTab_mem (List.getElem_mem hlt)
    have htake : tbl.take (i + 1) = tbl.take i ++ [tbl[i]] := List.take_succ_eq_append_getElem hlt
    generalize hfs : tbl[i] = fs at hr1 hfn htake hwm
    have hsn := tabQ_snoc cm (tbl.take i) fs
    rw [← htake] at hsn
    have hp1 := hpre i
    have hp2 := hpre (i + 1)
    rw [hsn, List.length_append, List.length_append] at hp2
    have hrq := rowQ_len hcl.2 fs
    have hu1 := hr1.one
    have eE : e = upd (upd (upd (upd (upd (upd (upd e 0 v0) 1 (strV tail)) 5 (.pointer (some ⟨w.heap.size, 0, none⟩))) 7 (strV (tabQ cm (tbl.take i)))) 31 (.slice (some ⟨g1, o1, none⟩) tbl.length d1)) 32 (.int .i64 (tbl.length : Int))) 33 (.int .i64 (i : Int)) := by simp only [upd_self e0, upd_self e1, upd_self e5, upd_self e7, upd_self (e31.trans hwv), upd_self e32, upd_self e33]
    rw [eE]
    have hcom : ∀ w1, Only (fun _ => False) w2 w1 → Ret Tryd.prog 18 #[.agg (o.set true).cells.toArray] w1 fun u w3 => u = strV cm ∧ Only (fun _ => False) w2 w3 := fun w1 ho => (comma_ok (o.set true) w1).mono fun u w3 h3 => ⟨by rw [← hcmE]; exact h3.1, ho.trans h3.2⟩
    have hcmt : ∀ w1, Only (fun _ => False) w2 w1 → Ret Tryd.prog 23 #[.agg (o.set true).cells.toArray] w1 fun u w3 => u = strV (cmtB (o.set true)) ∧ Only (fun _ => False) w2 w3 := fun w1 ho => (comment_ok (o.set true) w1).mono fun u w3 h3 => ⟨h3.1, ho.trans h3.2⟩
    have hrw : ∀ w1, Only (fun _ => False) w2 w1 → Ret Tryd.prog 22 #[u1, strV cm, strV (cmtB (o.set true)), .int .i64 (-1)] w1 fun u w3 => u = strV (rowQ cm fs) ∧ Only (fun _ => False) w2 w3 := fun w1 ho => (Row_q u1 fs cm (cmtB (o.set true)) w1 (hr1.new ho) (by omega) (fun f hf => by have := hfn.2 f hf; omega) (by omega)).mono fun u w3 h3 => ⟨h3.1, ho.trans h3.2⟩
    refine W_seq ?_
    refine W_region ?_
    refine V (x_bin rfl rfl (bt (decide_eq_true (by omega)))) rfl ?_
    refine WL_nil ?_
    refine W_seq ?_
    refine W_true (rfl) ?_
    refine W_skip ?_
    refine W_seq ?_
    refine W_block ?_
    refine W_seq ?_
    refine W_region ?_
    refine V (x_index (i := i) Tryd.underlying27 sz30 rfl rfl rfl (by omega)) rfl ?_
    refine V (x_load ld30 rfl hc1) rfl ?_
    refine V (x_assign (by conv => lhs; whnf)) rfl ?_
    refine WL_nil ?_
    refine W_quiet (fun w1 => Only (fun _ => False) w2 w1) mixed (by kernel_rfl) (Only.drew _ _) ?_
    refine B (fun w1 hw1 => x_move (by conv => lhs; whnf)) rfl ?_
    refine B (fun w1 hw1 => x_move (by conv => lhs; whnf)) rfl ?_
    refine B (fun w1 hw1 => x_loadA Tryd.underlying23 (cs := (o.set true).cells) szO rfl (hOi.only hw1 id)) rfl ?_
    refine BC (fun _ => x_call1 cf18 (by conv => lhs; whnf)) (fun w1 hw1 => hcom w1 hw1) rfl ?_
    refine B (fun w1 hw1 => x_loadA Tryd.underlying23 (cs := (o.set true).cells) szO rfl (hOi.only hw1 id)) rfl ?_
    refine BC (fun _ => x_call1 cf23 (by conv => lhs; whnf)) (fun w1 hw1 => hcmt w1 hw1) rfl ?_
    refine BC (fun _ => x_call4 cf22 rfl rfl rfl rfl) (fun w1 hw1 => hrw w1 hw1) rfl ?_
    refine B (fun w1 hw1 => x_sv_add (m := [10]) rfl rfl (by simp; omega)) rfl ?_
    refine B (fun w1 hw1 => x_sv_add rfl rfl (by simp; omega)) rfl ?_
    refine B (fun w1 hw1 => x_assign (by conv => lhs; whnf)) rfl ?_
    refine BN ?_
    intro w1 hw1
    refine W_region ?_
    refine V (x_bin rfl rfl (ib_addn (m := i + 1) (by omega) (by omega))) rfl ?_
    refine V (x_move (by conv => lhs; whnf)) rfl ?_
    refine WL_nil ?_
    repeat (first | with_reducible refine xt ?_ | with_reducible refine xb ?_ | with_reducible refine nt ?_ | with_reducible refine nb ?_ | with_reducible refine xn rfl ?_)
    exact ⟨tbl.length - (i + 1), by omega, i + 1, by omega, rfl, rfl, rfl, rfl, by rw [hsn]; rfl, hwv.symm, rfl, rfl, hO3.trans hw1⟩
  · have hif : tbl.take i = tbl := List.take_of_length_le (by omega)
    rw [hif] at e7
    obtain ⟨hG3, hU3⟩ := tabs w2 hw2
    have hq13 : (13 : UInt8) ∉ tabQ cm tbl := no13_tabQ hcm.no13 fun fs hfs => (hsp fs hfs).2
    have ht13 := hasB_one h13
    have ht34 := hasB_one h34
    have htab : Tab cm true (o.set true).ct (tabQ cm tbl ++ (34 :: tail)) (tbl ++ [[tail]]) := tab_q (tab_open ht34 ht13) tbl (fun fs hfs => (hsp fs hfs).1) (by simp only [List.mem_append, List.mem_cons, not_or]; exact ⟨hq13, by decide, ht13⟩)
    have hall := implReadAll_sv ((tabQ cm tbl ++ [34]) ++ tail) (o.set true) er w2 (tbl ++ [[tail]]) hG3 hU3 hb rfl rfl (by rw [hcmE, List.append_assoc]; exact htab) (by simp; omega) (by simp; omega)
    have eE : e = upd (upd (upd (upd (upd (upd (upd e 0 v0) 1 (strV tail)) 5 (.pointer (some ⟨w.heap.size, 0, none⟩))) 7 (strV (tabQ cm tbl))) 31 v0) 32 (.int .i64 (tbl.length : Int))) 33 (.int .i64 (i : Int)) := by simp only [upd_self e0, upd_self e1, upd_self e5, upd_self e7, upd_self e31, upd_self e32, upd_self e33]
    have hln : ∀ fs ∈ tbl ++ [[tail]], fs.length ≤ 2147487744 := fun fs hfs => by
      rcases List.mem_append.1 hfs with h5 | h5
      · have := (hrow fs h5).1; omega
      · rw [List.mem_singleton] at h5; subst h5; simp
    rw [eE]
    refine W_seq ?_
    refine W_region ?_
    refine V (x_bin rfl rfl (bf (decide_eq_false (by omega)))) rfl ?_
    refine WL_nil ?_
    refine W_seq ?_
    refine W_false (rfl) ?_
    refine W_exit ?_
    repeat (first | with_reducible refine xt ?_ | with_reducible refine xb ?_ | with_reducible refine nt ?_ | with_reducible refine nb ?_ | with_reducible refine xn rfl ?_)
    refine W_seq ?_
    refine W_region ?_
    refine V (x_move (by conv => lhs; whnf)) rfl ?_
    refine V (x_sv_add (m := [34]) rfl rfl (by simp; omega)) rfl ?_
    refine V (x_move (by conv => lhs; whnf)) rfl ?_
    refine V (x_sv_add rfl rfl (by simp; omega)) rfl ?_
    refine V (x_loadA Tryd.underlying23 (cs := (o.set true).cells) szO rfl hOi) rfl ?_
    refine C (x_call2 cf19 (by conv => lhs; whnf) (by conv => lhs; whnf)) rfl ?_
    refine hall.mono fun v w3 h3 => ?_
    obtain ⟨vs, rows, rfl, hV, ho3⟩ := h3
    have hw3 := hw2.trans ho3
    have hT3 := hT.new hw3
    obtain ⟨A3, c3, rows3, hv3, hl3, hcs3, hrd3⟩ := id hT3
    have hone3 : ∀ u ∈ rows3, u.oneCell' = true := (by intro u hu; obtain ⟨j, hj, rfl⟩ := List.getElem_of_mem hu; exact (hrd3 j _ _ (List.getElem?_eq_getElem hj) (List.getElem?_eq_getElem (by omega))).one)
    refine V (x_move (by conv => lhs; whnf)) rfl ?_
    refine V (x_extract rfl rfl) rfl ?_
    refine V (x_extract rfl rfl) rfl ?_
    refine V (x_assign (by conv => lhs; whnf)) rfl ?_
    refine V (x_assign (by conv => lhs; whnf)) rfl ?_
    refine WL_nil ?_
    refine W_seq ?_
    refine W_region ?_
    refine V (x_move (by conv => lhs; whnf)) rfl ?_
    refine V (x_bin rfl rfl (bt rfl)) rfl ?_
    refine V (x_move (by conv => lhs; whnf)) rfl ?_
    refine VG rfl (x_move (by conv => lhs; whnf)) rfl ?_
    refine VG rfl (x_move (by conv => lhs; whnf)) rfl ?_
    refine VGE rfl (x_append (news := rows3) eT30 rfl hv3 (Own.nil _ _ _) (by omega) hcs3 hone3 (by omega) (by unfold maxLen; omega)) rfl ?_
    rintro va w4 ⟨hown4, ho4, hat4⟩
    have hn4 : Only (fun _ => False) w3 w4 := ho4.mono (fun k _ hk => by cases hk)
    refine VG rfl (x_move (by conv => lhs; whnf)) rfl ?_
    refine VG rfl (x_bs1 Tryd.underlying30 sz9 zv9 rfl rfl rfl) rfl ?_
    refine VG rfl (x_bs1 Tryd.underlying27 sz30 zv30 rfl rfl rfl) rfl ?_
    have hA1 := Only.alloc (fun _ => False) w4 (.cells [strV tail].toArray 9)
    have hA2 := Only.alloc (fun _ => False) (w4.alloc (.cells [strV tail].toArray 9)) (.cells [Value.slice (some ⟨w4.heap.size, 0, none⟩) 1 1].toArray 30)
    refine VGE rfl (x_append (news := [Value.slice (some ⟨w4.heap.size, 0, none⟩) 1 1]) eT30 (by conv => lhs; whnf) (by conv => lhs; whnf) ((hown4.only hA1 (fun _ _ => id)).only hA2 (fun _ _ => id)) rfl (Cells.of_blk (Blk.new _ _ _)) (by intro u hu; rw [List.mem_singleton] at hu; subst hu; rfl) (by omega) (by unfold maxLen; omega)) rfl ?_
    rintro vb w5 ⟨hown5, ho5, hat5⟩
    have hn5 : Only (fun _ => False) w3 w5 := ((hn4.trans hA1).trans hA2).then_ ho5 (own_new hat4)
    have hb5 : Blk w5 w4.heap.size 9 [strV tail] := ((Blk.new w4 9 [strV tail]).only hA2 id).only ho5 (fun hv => Nat.lt_irrefl _ (hown4.lt hv))
    have hTb : RdTab w5 vb (tbl ++ [[tail]]) := more_read hn5 hrd3 hl3 (by rw [Nat.zero_add] at hown5; exact hown5) (rdRow_blk (fs := [tail]) hb5 rfl)
    refine CG rfl (x_call2 cf20 (by conv => lhs; whnf) (by conv => lhs; whnf)) rfl ?_
    refine (Same_ok vs vb (tbl ++ [[tail]]) w5 (hV.read.new hn5) hTb (by simp; omega) hln).mono fun v w6 h6 => ?_
    obtain ⟨rfl, ho6⟩ := h6
    refine V (x_pick_t rfl (by conv => lhs; whnf)) rfl ?_
    refine V (x_assign (by conv => lhs; whnf)) rfl ?_
    refine WL_nil ?_
    refine W_ret ?_
    repeat (with_reducible (first | refine rt ?_ | refine rb ?_))
    exact bodyE_1 rfl rfl ⟨rfl, (hw3.trans hn5).trans ho6⟩
end Go.Proofs.YtcdhbfhijkdfoaaDoor
