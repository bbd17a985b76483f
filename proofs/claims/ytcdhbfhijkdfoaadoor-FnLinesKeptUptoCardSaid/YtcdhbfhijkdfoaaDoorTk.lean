/-
  FnLinesKept: lines within a quoted field.
-/
import Derived.Test.YtcdhbfhijkdfoaaDoorTh
namespace Go.Proofs.YtcdhbfhijkdfoaaDoor
open Go.EC Go.RowKit
/-- What line number i brings into the field. -/
def piece (ct : Bytes) (i : Nat) (l : Bytes) : Bytes := ((if 0 < i then [10] else []) ++ (if i % 2 = 1 then ct else [])) ++ l
def kept (ct : Bytes) : Nat → List Bytes → Bytes
  | _, [] => []
  | i, l :: ls => piece ct i l ++ kept ct (i + 1) ls
theorem kept_snoc (ct : Bytes) (n : Nat) (ls : List Bytes) (x : Bytes) : kept ct n (ls ++ [x]) = kept ct n ls ++ piece ct (n + ls.length) x := by
  induction ls generalizing n with
  | nil => simp [kept]
  | cons l ls ih =>
    simp only [List.cons_append, kept, ih, List.append_assoc, List.length_cons]
    rw [show n + 1 + ls.length = n + (ls.length + 1) by omega]
theorem kept_len {ct : Bytes} (hc : ct.length ≤ 4) (n : Nat) (ls : List Bytes) : (kept ct n ls).length ≤ 5 * wRow ls := by
  induction ls generalizing n with
  | nil => simp [kept]
  | cons l ls ih =>
    have h1 := ih (n + 1)
    have h2 : (piece ct n l).length ≤ l.length + 5 := by
      unfold piece
      simp only [List.length_append]
      split <;> split <;> simp <;> omega
    unfold wRow at *
    simp only [kept, List.length_append, List.map_cons, List.sum_cons]
    omega
theorem kept_take {ct : Bytes} (hc : ct.length ≤ 4) (ls : List Bytes) (i : Nat) : (kept ct 0 (ls.take i)).length ≤ 5 * wRow ls := by
  refine Nat.le_trans (kept_len hc 0 _) ?_
  have : wRow (ls.take i) ≤ wRow ls := by
    unfold wRow
    have h := congrArg (fun l : List Bytes => (l.map fun f => f.length + 1).sum) (List.take_append_drop i ls)
    simp only [List.map_append, List.sum_append] at h
    omega
  omega
theorem ib_rem2 (i : Nat) : ibin .rem .i64 (i : Int) 2 = some (.int .i64 ((i % 2 : Nat) : Int)) := by
  have h : (i : Int).tmod 2 = ((i % 2 : Nat) : Int) := by
    rw [Int.tmod_eq_emod_of_nonneg (by omega)]; omega
  simp [ibin, h]
theorem cmtB_facts {o : Opt} (h : o.good = true) : (13 : UInt8) ∉ cmtB o ∧ (cmtB o).length ≤ 4 := by
  obtain ⟨_, hok2, _⟩ := Opt.ok h
  unfold cmtB
  split
  · simp
  · rename_i hz
    have hc : Cm o.ct (encR o.ct) := ⟨rfl, hok2.resolve_left hz⟩
    exact ⟨hc.no13, hc.len.2⟩
def keptTab (f : Bytes) : List (List Bytes) := [[f], [[120], f], [[121]]]
theorem kept_tab (w : World) (f : Bytes) (w1 w2 w3 w4 : World) (h1 : w1 = w.alloc (.cells [strV f].toArray 9)) (h2 : w2 = w1.alloc (.cells [strV [120], strV f].toArray 9)) (h3 : w3 = w2.alloc (.cells [strV [121]].toArray 9))
    (h4 : w4 = w3.alloc (.cells [Value.slice (some ⟨w.heap.size, 0, none⟩) 1 1, .slice (some ⟨w1.heap.size, 0, none⟩) 2 2, .slice (some ⟨w2.heap.size, 0, none⟩) 1 1].toArray 30)) : RdTab w4 (.slice (some ⟨w3.heap.size, 0, none⟩) 3 3) (keptTab f) ∧ Only (fun _ => False) w w4 := by
  have a1 : Only (fun _ => False) w w1 := by rw [h1]; exact Only.alloc _ _ _
  have a2 : Only (fun _ => False) w1 w2 := by rw [h2]; exact Only.alloc _ _ _
  have a3 : Only (fun _ => False) w2 w3 := by rw [h3]; exact Only.alloc _ _ _
  have a4 : Only (fun _ => False) w3 w4 := by rw [h4]; exact Only.alloc _ _ _
  have b1 : Blk w1 w.heap.size 9 [strV f] := by rw [h1]; exact Blk.new _ _ _
  have b2 : Blk w2 w1.heap.size 9 [strV [120], strV f] := by rw [h2]; exact Blk.new _ _ _
  have b3 : Blk w3 w2.heap.size 9 [strV [121]] := by rw [h3]; exact Blk.new _ _ _
  have b4 : Blk w4 w3.heap.size 30 [Value.slice (some ⟨w.heap.size, 0, none⟩) 1 1, .slice (some ⟨w1.heap.size, 0, none⟩) 2 2, .slice (some ⟨w2.heap.size, 0, none⟩) 1 1] := by rw [h4]; exact Blk.new _ _ _
  have r1 := (((rdRow_blk (fs := [f]) (n := 1) b1 rfl).new a2).new a3).new a4
  have r2 := ((rdRow_blk (fs := [[120], f]) (n := 2) b2 rfl).new a3).new a4
  have r3 := (rdRow_blk (fs := [[121]]) (n := 1) b3 rfl).new a4
  refine ⟨rdTab_blk b4 rfl rfl fun j u fs hj hf => ?_, ((a1.trans a2).trans a3).trans a4⟩
  match j, hj, hf with
  | 0, hj, hf => simp [keptTab] at hj hf; subst hj hf; exact r1
  | 1, hj, hf => simp [keptTab] at hj hf; subst hj hf; exact r2
  | 2, hj, hf => simp [keptTab] at hj hf; subst hj hf; exact r3
  | j + 3, hj, hf => simp at hj
theorem linesKept (v0 : Value) (ls : List Bytes) (o : Opt) (er : Nat → Addr) (w : World) (hG : Glob w er) (hU : Lib.Utf8Tabs 10 11 w) (hT : RdRow w v0 ls) (hwt : wRow ls ≤ 1048576) :
    Ret Tryd.prog 6 #[v0, .agg o.cells.toArray] w fun v w' => v = .bool true ∧ Only (fun _ => False) w w' := by
  refine ret_of_W Tryd.func6 rfl (Nat.le_of_ble_eq_true rfl) ?_
  have htn := wRow_len ls
  obtain ⟨A0, c0, hv0, hcs0⟩ := id hT
  have hO := Blk.new w 23 o.cells
  have hO1 : Only (fun _ => False) w (w.alloc (.cells o.cells.toArray 23)) := Only.alloc _ _ _
  generalize hwA : w.alloc (.cells o.cells.toArray 23) = wA at *
  have hO2 : Blk ((wA.setCell ⟨w.heap.size, 2, none⟩ (.int .i64 (-1))).setCell ⟨w.heap.size, 4, none⟩ (.bool false)) w.heap.size 23 (o.set o.lz).cells := (hO.set 2 _).set 4 _
  have hS2 : Only (fun _ => False) w ((wA.setCell ⟨w.heap.size, 2, none⟩ (.int .i64 (-1))).setCell ⟨w.heap.size, 4, none⟩ (.bool false)) :=
    hO1.then_ ((Only.setCell (· = w.heap.size) _ rfl _).trans (Only.setCell (· = w.heap.size) _ rfl _)) fun i hi hh => by omega
  have hO1b := hO.set 2 (.int .i64 (-1))
  generalize hwB : (wA.setCell ⟨w.heap.size, 2, none⟩ (.int .i64 (-1))).setCell ⟨w.heap.size, 4, none⟩ (.bool false) = wB at *
  have hg := good_ok (o.set o.lz) wB
  have tabs : ∀ w', Only (fun _ => False) w w' → Glob w' er ∧ Lib.Utf8Tabs 10 11 w' := fun w' ho => by
    have h12 : 11 < w.heap.size := cell_lt (hU.2 0 (by decide)).1
    exact ⟨hG.only ho fun _ h => h.elim, ⟨fun i hi => (World.cell?_of_block (ho.block 10 (by omega) id)).trans (hU.1 i hi), fun i hi => ⟨(World.cell?_of_block (ho.block 11 h12 id)).trans (hU.2 i hi).1, (World.cell?_of_block (ho.block 11 h12 id)).trans (hU.2 i hi).2⟩⟩⟩
  cases hb : (o.set o.lz).good
  · rw [hb] at hg
    conv => arg 3; whnf
    refine W_seq ?_
    refine W_region ?_
    refine V (x_box (cs := o.cells) rfl) rfl ?_
    refine V (x_assign (by conv => lhs; whnf)) rfl ?_
    refine WL_nil ?_
    rw [hwA]
    refine W_seq ?_
    refine W_region ?_
    refine V (x_field0 fa23_2 rfl) rfl ?_
    refine S (x_store st3 rfl (by conv => lhs; whnf) rfl ((hO).cell 2 rfl) ((hO).free 2)) ?_
    refine WL_nil ?_
    refine W_seq ?_
    refine W_region ?_
    refine V (x_field0 fa23_4 rfl) rfl ?_
    refine S (x_store st4 rfl (by conv => lhs; whnf) rfl ((hO1b).cell 4 rfl) ((hO1b).free 4)) ?_
    refine WL_nil ?_
    rw [hwB]
    refine W_seq ?_
    refine W_seq ?_
    refine W_region ?_
    refine V (x_loadA Tryd.underlying23 (cs := (o.set o.lz).cells) szO rfl hO2) rfl ?_
    refine C (x_call1 cf16 (by conv => lhs; whnf)) rfl ?_
    refine hg.mono fun v w1 h1 => ?_
    obtain ⟨rfl, ho1⟩ := h1
    refine V (x_not rfl) rfl ?_
    refine WL_nil ?_
    refine W_true (rfl) ?_
    refine W_seq ?_
    refine W_region ?_
    refine V (x_assign (by conv => lhs; whnf)) rfl ?_
    refine WL_nil ?_
    refine W_ret ?_
    repeat (with_reducible (first | refine rt ?_ | refine rb ?_))
    exact bodyE_1 rfl rfl ⟨rfl, hS2.trans ho1⟩
  rw [hb] at hg
  obtain ⟨hok1, hok2, hok3⟩ := Opt.ok hb
  have hcm : Cm (o.set o.lz).comma (encR (o.set o.lz).comma) := ⟨rfl, hok1⟩
  have hcl := hcm.len
  obtain ⟨hct13, hctl⟩ := cmtB_facts hb
  have hcomC : ∀ w1, Ret Tryd.prog 18 #[.agg (o.set o.lz).cells.toArray] w1 fun u w3 => u = strV (encR (o.set o.lz).comma) ∧ Only (fun _ => False) w1 w3 := comma_ok (o.set o.lz)
  have hcmtC : ∀ w1, Ret Tryd.prog 23 #[.agg (o.set o.lz).cells.toArray] w1 fun u w3 => u = strV (cmtB (o.set o.lz)) ∧ Only (fun _ => False) w1 w3 := comment_ok (o.set o.lz)
  generalize hctE : cmtB (o.set o.lz) = ct at *
  generalize hcmE : encR (o.set o.lz).comma = cm at *
  conv => arg 3; whnf
  refine W_seq ?_
  refine W_region ?_
  refine V (x_box (cs := o.cells) rfl) rfl ?_
  refine V (x_assign (by conv => lhs; whnf)) rfl ?_
  refine WL_nil ?_
  rw [hwA]
  refine W_seq ?_
  refine W_region ?_
  refine V (x_field0 fa23_2 rfl) rfl ?_
  refine S (x_store st3 rfl (by conv => lhs; whnf) rfl ((hO).cell 2 rfl) ((hO).free 2)) ?_
  refine WL_nil ?_
  refine W_seq ?_
  refine W_region ?_
  refine V (x_field0 fa23_4 rfl) rfl ?_
  refine S (x_store st4 rfl (by conv => lhs; whnf) rfl ((hO1b).cell 4 rfl) ((hO1b).free 4)) ?_
  refine WL_nil ?_
  rw [hwB]
  refine W_seq ?_
  refine W_seq ?_
  refine W_region ?_
  refine V (x_loadA Tryd.underlying23 (cs := (o.set o.lz).cells) szO rfl hO2) rfl ?_
  refine C (x_call1 cf16 (by conv => lhs; whnf)) rfl ?_
  refine hg.mono fun v w1 h1 => ?_
  obtain ⟨rfl, ho1⟩ := h1
  refine V (x_not rfl) rfl ?_
  refine WL_nil ?_
  refine W_false (rfl) ?_
  refine W_skip ?_
  refine W_seq ?_
  refine W_region ?_
  refine V (x_assign (by conv => lhs; whnf)) rfl ?_
  refine WL_nil ?_
  refine W_seq ?_
  refine W_seq ?_
  refine W_region ?_
  refine V (x_move (by conv => lhs; whnf)) rfl ?_
  refine V (x_len_slice Tryd.underlying30 hv0) rfl ?_
  refine V (x_move (by conv => lhs; whnf)) rfl ?_
  refine WL_nil ?_
  refine W_block ?_
  refine W_loop (fun K e w' => ∃ i : Nat, i ≤ ls.length ∧ K = ls.length - i ∧ e 3 = .pointer (some ⟨w.heap.size, 0, none⟩) ∧ e 5 = strV (kept ct 0 (ls.take i)) ∧ e 19 = v0 ∧ e 20 = .int .i64 (ls.length : Int) ∧ e 21 = .int .i64 (i : Int) ∧ (13 : UInt8) ∉ kept ct 0 (ls.take i) ∧ Only (fun _ => False) wB w') (k0 := ls.length) ⟨0, Nat.zero_le _, by omega, rfl, rfl, rfl, rfl, rfl, by simp [kept], ho1⟩ ?_
  rintro K e w2 ⟨i, hi, rfl, e3, e5, e19, e20, e21, hk13, hO3⟩
  have hOi := hO2.only hO3 id
  have hw2 := hS2.trans hO3
  have hkl := kept_take hctl ls i
  by_cases hlt : i < ls.length
  · obtain ⟨g1, o1, d1, hwv, hc1⟩ := (hT.new hw2).at_ hlt
    have hfl := wRow_mem (List.getElem_mem hlt)
    have htake : ls.take (i + 1) = ls.take i ++ [ls[i]] := List.take_succ_eq_append_getElem hlt
    generalize hfs : ls[i] = l at hc1 hfl htake
    have hsn := kept_snoc ct 0 (ls.take i) l
    rw [← htake, List.length_take, Nat.zero_add, Nat.min_eq_left (by omega)] at hsn
    have hH13 : ∀ w1, Ret Tryd.prog 17 #[strV l, strV [13]] w1 fun v w' => v = .bool (hasB l [13]) ∧ w1 = w' := fun w1 => Has_ok l [13] w1 (by omega) (by simp)
    have hH10 : ∀ w1, Ret Tryd.prog 17 #[strV l, strV [10]] w1 fun v w' => v = .bool (hasB l [10]) ∧ w1 = w' := fun w1 => Has_ok l [10] w1 (by omega) (by simp)
    have eE : e = upd (upd (upd (upd (upd e 3 (.pointer (some ⟨w.heap.size, 0, none⟩))) 5 (strV (kept ct 0 (ls.take i)))) 19 (.slice (some ⟨g1, o1, none⟩) ls.length d1)) 20 (.int .i64 (ls.length : Int))) 21 (.int .i64 (i : Int)) := by simp only [upd_self e3, upd_self e5, upd_self (e19.trans hwv), upd_self e20, upd_self e21]
    rw [eE]
    cases h13 : hasB l [13]
    case true =>
      rw [h13] at hH13
      refine W_seq ?_
      refine W_region ?_
      refine V (x_bin rfl rfl (bt (decide_eq_true (by omega)))) rfl ?_
      refine WL_nil ?_
      refine W_seq ?_
      refine W_true (rfl) ?_
      refine W_skip ?_
      refine W_seq ?_
      refine W_block ?_
      refine W_seq ?_
      refine W_region ?_
      refine V (x_move (by conv => lhs; whnf)) rfl ?_
      refine V (x_index (i := i) Tryd.underlying30 sz9 rfl rfl rfl (by omega)) rfl ?_
      refine V (x_load ld9 rfl hc1) rfl ?_
      refine V (x_assign (by conv => lhs; whnf)) rfl ?_
      refine V (x_assign (by conv => lhs; whnf)) rfl ?_
      refine WL_nil ?_
      refine W_seq ?_
      refine W_seq ?_
      refine W_region ?_
      refine V (x_move (by conv => lhs; whnf)) rfl ?_
      refine C (x_call2 cf17 (by conv => lhs; whnf) (by conv => lhs; whnf)) rfl ?_
      refine (hH13 _).mono fun v w3 h3 => ?_
      obtain ⟨rfl, rfl⟩ := h3
      refine V (x_move (by conv => lhs; whnf)) rfl ?_
      refine SG rfl (by decide) rfl ?_
      refine SG rfl (by decide) rfl ?_
      refine V (x_pick_t rfl (by conv => lhs; whnf)) rfl ?_
      refine WL_nil ?_
      refine W_true (rfl) ?_
      refine W_seq ?_
      refine W_region ?_
      refine V (x_assign (by conv => lhs; whnf)) rfl ?_
      refine WL_nil ?_
      refine W_ret ?_
      repeat (with_reducible (first | refine rt ?_ | refine rb ?_))
      exact bodyE_1 rfl rfl ⟨rfl, hw2⟩
    rw [h13] at hH13
    cases h10 : hasB l [10]
    case true =>
      rw [h10] at hH10
      refine W_seq ?_
      refine W_region ?_
      refine V (x_bin rfl rfl (bt (decide_eq_true (by omega)))) rfl ?_
      refine WL_nil ?_
      refine W_seq ?_
      refine W_true (rfl) ?_
      refine W_skip ?_
      refine W_seq ?_
      refine W_block ?_
      refine W_seq ?_
      refine W_region ?_
      refine V (x_move (by conv => lhs; whnf)) rfl ?_
      refine V (x_index (i := i) Tryd.underlying30 sz9 rfl rfl rfl (by omega)) rfl ?_
      refine V (x_load ld9 rfl hc1) rfl ?_
      refine V (x_assign (by conv => lhs; whnf)) rfl ?_
      refine V (x_assign (by conv => lhs; whnf)) rfl ?_
      refine WL_nil ?_
      refine W_seq ?_
      refine W_seq ?_
      refine W_region ?_
      refine V (x_move (by conv => lhs; whnf)) rfl ?_
      refine C (x_call2 cf17 (by conv => lhs; whnf) (by conv => lhs; whnf)) rfl ?_
      refine (hH13 _).mono fun v w3 h3 => ?_
      obtain ⟨rfl, rfl⟩ := h3
      refine V (x_move (by conv => lhs; whnf)) rfl ?_
      refine VG rfl (x_move (by conv => lhs; whnf)) rfl ?_
      refine CG rfl (x_call2 cf17 (by conv => lhs; whnf) (by conv => lhs; whnf)) rfl ?_
      refine (hH10 _).mono fun v w3 h3 => ?_
      obtain ⟨rfl, rfl⟩ := h3
      refine V (x_pick_f rfl (by conv => lhs; whnf)) rfl ?_
      refine WL_nil ?_
      refine W_true (rfl) ?_
      refine W_seq ?_
      refine W_region ?_
      refine V (x_assign (by conv => lhs; whnf)) rfl ?_
      refine WL_nil ?_
      refine W_ret ?_
      repeat (with_reducible (first | refine rt ?_ | refine rb ?_))
      exact bodyE_1 rfl rfl ⟨rfl, hw2⟩
    rw [h10] at hH10
    have hl13 := hasB_one h13
    have hp13 : (13 : UInt8) ∉ piece ct i l := by
      unfold piece
      simp only [List.mem_append, not_or]
      refine ⟨⟨?_, ?_⟩, hl13⟩
      · split <;> simp
      · split
        · exact hct13
        · simp
    have h13n : (13 : UInt8) ∉ kept ct 0 (ls.take (i + 1)) := by rw [hsn]; simp only [List.mem_append, not_or]; exact ⟨hk13, hp13⟩
    by_cases hi0 : i = 0
    · subst hi0
      have hpc : piece ct 0 l = l := rfl
      rw [hpc] at hsn
      refine W_seq ?_
      refine W_region ?_
      refine V (x_bin rfl rfl (bt (decide_eq_true (by omega)))) rfl ?_
      refine WL_nil ?_
      refine W_seq ?_
      refine W_true (rfl) ?_
      refine W_skip ?_
      refine W_seq ?_
      refine W_block ?_
      refine W_seq ?_
      refine W_region ?_
      refine V (x_move (by conv => lhs; whnf)) rfl ?_
      refine V (x_index (i := 0) Tryd.underlying30 sz9 rfl rfl rfl (by omega)) rfl ?_
      refine V (x_load ld9 rfl hc1) rfl ?_
      refine V (x_assign (by conv => lhs; whnf)) rfl ?_
      refine V (x_assign (by conv => lhs; whnf)) rfl ?_
      refine WL_nil ?_
      refine W_seq ?_
      refine W_seq ?_
      refine W_region ?_
      refine V (x_move (by conv => lhs; whnf)) rfl ?_
      refine C (x_call2 cf17 (by conv => lhs; whnf) (by conv => lhs; whnf)) rfl ?_
      refine (hH13 _).mono fun v w3 h3 => ?_
      obtain ⟨rfl, rfl⟩ := h3
      refine V (x_move (by conv => lhs; whnf)) rfl ?_
      refine VG rfl (x_move (by conv => lhs; whnf)) rfl ?_
      refine CG rfl (x_call2 cf17 (by conv => lhs; whnf) (by conv => lhs; whnf)) rfl ?_
      refine (hH10 _).mono fun v w3 h3 => ?_
      obtain ⟨rfl, rfl⟩ := h3
      refine V (x_pick_f rfl (by conv => lhs; whnf)) rfl ?_
      refine WL_nil ?_
      refine W_false (rfl) ?_
      refine W_skip ?_
      refine W_seq ?_
      refine W_seq ?_
      refine W_region ?_
      refine V (x_move (by conv => lhs; whnf)) rfl ?_
      refine V (x_bin rfl rfl (bf (decide_eq_false (by omega)))) rfl ?_
      refine WL_nil ?_
      refine W_false (rfl) ?_
      refine W_skip ?_
      refine W_seq ?_
      refine W_seq ?_
      refine W_region ?_
      refine V (x_move (by conv => lhs; whnf)) rfl ?_
      refine V (x_bin rfl rfl (ib_rem2 0)) rfl ?_
      refine V (x_bin rfl rfl (bf rfl)) rfl ?_
      refine WL_nil ?_
      refine W_false (rfl) ?_
      refine W_skip ?_
      refine W_region ?_
      refine V (x_move (by conv => lhs; whnf)) rfl ?_
      refine V (x_move (by conv => lhs; whnf)) rfl ?_
      refine V (x_sv_add rfl rfl (by omega)) rfl ?_
      refine V (x_assign (by conv => lhs; whnf)) rfl ?_
      refine WL_nil ?_
      refine W_region ?_
      refine V (x_bin rfl rfl (ib_addn (m := 0 + 1) (by omega) (by omega))) rfl ?_
      refine V (x_move (by conv => lhs; whnf)) rfl ?_
      refine WL_nil ?_
      repeat (first | with_reducible refine xt ?_ | with_reducible refine xb ?_ | with_reducible refine nt ?_ | with_reducible refine nb ?_ | with_reducible refine xn rfl ?_)
      exact ⟨ls.length - (0 + 1), by omega, 0 + 1, by omega, rfl, rfl, by rw [hsn]; rfl, hwv.symm, rfl, rfl, h13n, hO3⟩
    by_cases hodd : i % 2 = 1
    · have hpc : piece ct i l = ([10] ++ ct) ++ l := by unfold piece; rw [if_pos (by omega), if_pos hodd]
      rw [hpc, ← List.append_assoc, ← List.append_assoc] at hsn
      refine W_seq ?_
      refine W_region ?_
      refine V (x_bin rfl rfl (bt (decide_eq_true (by omega)))) rfl ?_
      refine WL_nil ?_
      refine W_seq ?_
      refine W_true (rfl) ?_
      refine W_skip ?_
      refine W_seq ?_
      refine W_block ?_
      refine W_seq ?_
      refine W_region ?_
      refine V (x_move (by conv => lhs; whnf)) rfl ?_
      refine V (x_index (i := i) Tryd.underlying30 sz9 rfl rfl rfl (by omega)) rfl ?_
      refine V (x_load ld9 rfl hc1) rfl ?_
      refine V (x_assign (by conv => lhs; whnf)) rfl ?_
      refine V (x_assign (by conv => lhs; whnf)) rfl ?_
      refine WL_nil ?_
      refine W_seq ?_
      refine W_seq ?_
      refine W_region ?_
      refine V (x_move (by conv => lhs; whnf)) rfl ?_
      refine C (x_call2 cf17 (by conv => lhs; whnf) (by conv => lhs; whnf)) rfl ?_
      refine (hH13 _).mono fun v w3 h3 => ?_
      obtain ⟨rfl, rfl⟩ := h3
      refine V (x_move (by conv => lhs; whnf)) rfl ?_
      refine VG rfl (x_move (by conv => lhs; whnf)) rfl ?_
      refine CG rfl (x_call2 cf17 (by conv => lhs; whnf) (by conv => lhs; whnf)) rfl ?_
      refine (hH10 _).mono fun v w3 h3 => ?_
      obtain ⟨rfl, rfl⟩ := h3
      refine V (x_pick_f rfl (by conv => lhs; whnf)) rfl ?_
      refine WL_nil ?_
      refine W_false (rfl) ?_
      refine W_skip ?_
      refine W_seq ?_
      refine W_seq ?_
      refine W_region ?_
      refine V (x_move (by conv => lhs; whnf)) rfl ?_
      refine V (x_bin rfl rfl (bt (decide_eq_true (by omega)))) rfl ?_
      refine WL_nil ?_
      refine W_true (rfl) ?_
      refine W_region ?_
      refine V (x_move (by conv => lhs; whnf)) rfl ?_
      refine V (x_sv_add (m := [10]) rfl rfl (by simp; omega)) rfl ?_
      refine V (x_assign (by conv => lhs; whnf)) rfl ?_
      refine WL_nil ?_
      refine W_seq ?_
      refine W_seq ?_
      refine W_region ?_
      refine V (x_move (by conv => lhs; whnf)) rfl ?_
      refine V (x_bin rfl rfl (ib_rem2 i)) rfl ?_
      refine V (x_bin rfl rfl (bt (beq_iff_eq.2 (by omega)))) rfl ?_
      refine WL_nil ?_
      refine W_true (rfl) ?_
      refine W_region ?_
      refine V (x_move (by conv => lhs; whnf)) rfl ?_
      refine V (x_loadA Tryd.underlying23 (cs := (o.set o.lz).cells) szO rfl hOi) rfl ?_
      refine C (x_call1 cf23 (by conv => lhs; whnf)) rfl ?_
      refine (hcmtC _).mono fun v w3 h3 => ?_
      obtain ⟨rfl, ho3⟩ := h3
      refine V (x_sv_add rfl rfl (by simp; omega)) rfl ?_
      refine V (x_assign (by conv => lhs; whnf)) rfl ?_
      refine WL_nil ?_
      refine W_region ?_
      refine V (x_move (by conv => lhs; whnf)) rfl ?_
      refine V (x_move (by conv => lhs; whnf)) rfl ?_
      refine V (x_sv_add rfl rfl (by simp; omega)) rfl ?_
      refine V (x_assign (by conv => lhs; whnf)) rfl ?_
      refine WL_nil ?_
      refine W_region ?_
      refine V (x_bin rfl rfl (ib_addn (m := i + 1) (by omega) (by omega))) rfl ?_
      refine V (x_move (by conv => lhs; whnf)) rfl ?_
      refine WL_nil ?_
      repeat (first | with_reducible refine xt ?_ | with_reducible refine xb ?_ | with_reducible refine nt ?_ | with_reducible refine nb ?_ | with_reducible refine xn rfl ?_)
      exact ⟨ls.length - (i + 1), by omega, i + 1, by omega, rfl, rfl, by rw [hsn]; rfl, hwv.symm, rfl, rfl, h13n, hO3.trans ho3⟩
    · have hpc : piece ct i l = [10] ++ l := by unfold piece; rw [if_pos (by omega), if_neg hodd]; rfl
      rw [hpc, ← List.append_assoc] at hsn
      refine W_seq ?_
      refine W_region ?_
      refine V (x_bin rfl rfl (bt (decide_eq_true (by omega)))) rfl ?_
      refine WL_nil ?_
      refine W_seq ?_
      refine W_true (rfl) ?_
      refine W_skip ?_
      refine W_seq ?_
      refine W_block ?_
      refine W_seq ?_
      refine W_region ?_
      refine V (x_move (by conv => lhs; whnf)) rfl ?_
      refine V (x_index (i := i) Tryd.underlying30 sz9 rfl rfl rfl (by omega)) rfl ?_
      refine V (x_load ld9 rfl hc1) rfl ?_
      refine V (x_assign (by conv => lhs; whnf)) rfl ?_
      refine V (x_assign (by conv => lhs; whnf)) rfl ?_
      refine WL_nil ?_
      refine W_seq ?_
      refine W_seq ?_
      refine W_region ?_
      refine V (x_move (by conv => lhs; whnf)) rfl ?_
      refine C (x_call2 cf17 (by conv => lhs; whnf) (by conv => lhs; whnf)) rfl ?_
      refine (hH13 _).mono fun v w3 h3 => ?_
      obtain ⟨rfl, rfl⟩ := h3
      refine V (x_move (by conv => lhs; whnf)) rfl ?_
      refine VG rfl (x_move (by conv => lhs; whnf)) rfl ?_
      refine CG rfl (x_call2 cf17 (by conv => lhs; whnf) (by conv => lhs; whnf)) rfl ?_
      refine (hH10 _).mono fun v w3 h3 => ?_
      obtain ⟨rfl, rfl⟩ := h3
      refine V (x_pick_f rfl (by conv => lhs; whnf)) rfl ?_
      refine WL_nil ?_
      refine W_false (rfl) ?_
      refine W_skip ?_
      refine W_seq ?_
      refine W_seq ?_
      refine W_region ?_
      refine V (x_move (by conv => lhs; whnf)) rfl ?_
      refine V (x_bin rfl rfl (bt (decide_eq_true (by omega)))) rfl ?_
      refine WL_nil ?_
      refine W_true (rfl) ?_
      refine W_region ?_
      refine V (x_move (by conv => lhs; whnf)) rfl ?_
      refine V (x_sv_add (m := [10]) rfl rfl (by simp; omega)) rfl ?_
      refine V (x_assign (by conv => lhs; whnf)) rfl ?_
      refine WL_nil ?_
      refine W_seq ?_
      refine W_seq ?_
      refine W_region ?_
      refine V (x_move (by conv => lhs; whnf)) rfl ?_
      refine V (x_bin rfl rfl (ib_rem2 i)) rfl ?_
      refine V (x_bin rfl rfl (bf (beq_eq_false_iff_ne.2 (by omega)))) rfl ?_
      refine WL_nil ?_
      refine W_false (rfl) ?_
      refine W_skip ?_
      refine W_region ?_
      refine V (x_move (by conv => lhs; whnf)) rfl ?_
      refine V (x_move (by conv => lhs; whnf)) rfl ?_
      refine V (x_sv_add rfl rfl (by simp; omega)) rfl ?_
      refine V (x_assign (by conv => lhs; whnf)) rfl ?_
      refine WL_nil ?_
      refine W_region ?_
      refine V (x_bin rfl rfl (ib_addn (m := i + 1) (by omega) (by omega))) rfl ?_
      refine V (x_move (by conv => lhs; whnf)) rfl ?_
      refine WL_nil ?_
      repeat (first | with_reducible refine xt ?_ | with_reducible refine xb ?_ | with_reducible refine nt ?_ | with_reducible refine nb ?_ | with_reducible refine xn rfl ?_)
      exact ⟨ls.length - (i + 1), by omega, i + 1, by omega, rfl, rfl, by rw [hsn]; rfl, hwv.symm, rfl, rfl, h13n, hO3⟩
  · generalize hfE : kept ct 0 (ls.take i) = f at *
    have eE : e = upd (upd (upd (upd e 3 (.pointer (some ⟨w.heap.size, 0, none⟩))) 5 (strV f)) 20 (.int .i64 (ls.length : Int))) 21 (.int .i64 (i : Int)) := by simp only [upd_self e3, upd_self e5, upd_self e20, upd_self e21]
    rw [eE]
    refine W_seq ?_
    refine W_region ?_
    refine V (x_bin rfl rfl (bf (decide_eq_false (by omega)))) rfl ?_
    refine WL_nil ?_
    refine W_seq ?_
    refine W_false (rfl) ?_
    refine W_exit ?_
    repeat (first | with_reducible refine xt ?_ | with_reducible refine xb ?_ | with_reducible refine nt ?_ | with_reducible refine nb ?_ | with_reducible refine xn rfl ?_)
    refine W_cut (fun e' w' => ∃ v8, e' 3 = .pointer (some ⟨w.heap.size, 0, none⟩) ∧ e' 8 = v8 ∧ RdTab w' v8 (keptTab f) ∧ Only (fun _ => False) w2 w') ?_ ?_
    · skip
      refine W_region ?_
      refine V (x_move (by conv => lhs; whnf)) rfl ?_
      refine V (x_bs1 (v := strV f) Tryd.underlying30 sz9 zv9 rfl rfl rfl) rfl ?_
      refine V (x_move (by conv => lhs; whnf)) rfl ?_
      refine V (x_bs2 (v := strV [120]) (u := strV f) Tryd.underlying30 sz9 zv9 rfl rfl rfl rfl rfl) rfl ?_
      refine V (x_bs1 (v := strV [121]) Tryd.underlying30 sz9 zv9 rfl rfl rfl) rfl ?_
      refine V (x_bs3 Tryd.underlying27 sz30 zv30 rfl rfl rfl rfl rfl rfl rfl) rfl ?_
      refine V (x_assign (by conv => lhs; whnf)) rfl ?_
      refine WL_nil ?_
      repeat (first | with_reducible refine xt ?_ | with_reducible refine xb ?_ | with_reducible refine nt ?_ | with_reducible refine nb ?_ | with_reducible refine xn rfl ?_)
      have hk := kept_tab w2 f _ _ _ _ rfl rfl rfl rfl
      exact ⟨_, rfl, rfl, hk.1, hk.2⟩
    rintro e' w3 ⟨v8, f3, f8, hT8, hn3⟩
    obtain ⟨A8, c8, hv8⟩ : ∃ A c, v8 = .slice A (keptTab f).length c := by obtain ⟨A, c, _, h, _⟩ := hT8; exact ⟨A, c, h⟩
    have eF : e' = upd (upd e' 3 (.pointer (some ⟨w.heap.size, 0, none⟩))) 8 v8 := by simp only [upd_self f3, upd_self f8]
    rw [eF]
    have hw3 := hw2.trans hn3
    have hO3' := hOi.only hn3 id
    have hpre : ∀ i, (tabQ cm ((keptTab f).take i)).length ≤ (tabQ cm (keptTab f)).length := fun i => by
      have h1 : tabQ cm (keptTab f) = tabQ cm ((keptTab f).take i) ++ tabQ cm ((keptTab f).drop i) := by
        have h2 := tabQ_app cm ((keptTab f).take i) ((keptTab f).drop i)
        rw [List.take_append_drop] at h2; exact h2
      rw [h1, List.length_append]; omega
    have htq := tabQ_len hcl.2 (keptTab f)
    have hwk : wTab (keptTab f) ≤ 2 * f.length + 12 := by simp [wTab, wRow, keptTab]; omega
    have h3l : (keptTab f).length = 3 := rfl
    have hrow : ∀ fs ∈ keptTab f, fs.length ≤ 2 ∧ ∀ g ∈ fs, g.length ≤ f.length + 1 := by
      intro fs hfs
      simp only [keptTab, List.mem_cons, List.mem_nil_iff, or_false] at hfs
      rcases hfs with rfl | rfl | rfl
      · exact ⟨by simp, fun g hg => by rw [List.mem_singleton] at hg; subst hg; omega⟩
      · refine ⟨by simp, fun g hg => ?_⟩
        simp only [List.mem_cons, List.mem_nil_iff, or_false] at hg
        rcases hg with rfl | rfl
        · simp
        · omega
      · exact ⟨by simp, fun g hg => by rw [List.mem_singleton] at hg; subst hg; simp⟩
    refine W_seq ?_
    refine W_region ?_
    refine V (x_assign (by conv => lhs; whnf)) rfl ?_
    refine WL_nil ?_
    refine W_seq ?_
    refine W_seq ?_
    refine W_region ?_
    refine V (x_move (by conv => lhs; whnf)) rfl ?_
    refine V (x_len_slice Tryd.underlying27 hv8) rfl ?_
    refine V (x_move (by conv => lhs; whnf)) rfl ?_
    refine WL_nil ?_
    refine W_block ?_
    refine W_loop (fun K e w' => ∃ i : Nat, i ≤ 3 ∧ K = 3 - i ∧ e 3 = .pointer (some ⟨w.heap.size, 0, none⟩) ∧ e 8 = v8 ∧ e 9 = strV (tabQ cm ((keptTab f).take i)) ∧ e 53 = v8 ∧ e 54 = .int .i64 3 ∧ e 55 = .int .i64 (i : Int) ∧ Only (fun _ => False) w3 w') (k0 := 3) ⟨0, Nat.zero_le _, by omega, rfl, rfl, rfl, rfl, rfl, rfl, Only.refl _ _⟩ ?_
    rintro K e4 w4 ⟨i4, hi4, rfl, k3, k8, k9, k53, k54, k55, hO4⟩
    have hO4i := hO3'.only hO4 id
    have hw4 := hw3.trans hO4
    by_cases hlt4 : i4 < 3
    · obtain ⟨g1, o1, d1, u1, hwv, hc1, hr1⟩ := (hT8.new hO4).at_ (show i4 < (keptTab f).length from hlt4)
      have hfn := hrow _ (List.getElem_mem (show i4 < (keptTab f).length from hlt4))
      have hwm := wTab_mem (List.getElem_mem (show i4 < (keptTab f).length from hlt4))
      have htake : (keptTab f).take (i4 + 1) = (keptTab f).take i4 ++ [(keptTab f)[i4]'hlt4] := List.take_succ_eq_append_getElem hlt4
      generalize hfs : (keptTab f)[i4]'hlt4 = fs at hr1 hfn htake hwm
      have hsn := tabQ_snoc cm ((keptTab f).take i4) fs
      rw [← htake] at hsn
      have hp1 := hpre i4
      have hp2 := hpre (i4 + 1)
      rw [hsn, List.length_append, List.length_append] at hp2
      have hrq := rowQ_len hcl.2 fs
      have hu1 := hr1.one
      have hwv3 : v8 = .slice (some ⟨g1, o1, none⟩) 3 d1 := hwv
      have eG : e4 = upd (upd (upd (upd (upd (upd e4 3 (.pointer (some ⟨w.heap.size, 0, none⟩))) 8 v8) 9 (strV (tabQ cm ((keptTab f).take i4)))) 53 (.slice (some ⟨g1, o1, none⟩) 3 d1)) 54 (.int .i64 3)) 55 (.int .i64 (i4 : Int)) := by simp only [upd_self k3, upd_self k8, upd_self k9, upd_self (k53.trans hwv3), upd_self k54, upd_self k55]
      rw [eG]
      have hcom : ∀ w1, Only (fun _ => False) w4 w1 → Ret Tryd.prog 18 #[.agg (o.set o.lz).cells.toArray] w1 fun u w5 => u = strV cm ∧ Only (fun _ => False) w4 w5 := fun w1 ho => (hcomC w1).mono fun u w5 h5 => ⟨h5.1, ho.trans h5.2⟩
      have hcmt : ∀ w1, Only (fun _ => False) w4 w1 → Ret Tryd.prog 23 #[.agg (o.set o.lz).cells.toArray] w1 fun u w5 => u = strV ct ∧ Only (fun _ => False) w4 w5 := fun w1 ho => (hcmtC w1).mono fun u w5 h5 => ⟨h5.1, ho.trans h5.2⟩
      have hrw : ∀ w1, Only (fun _ => False) w4 w1 → Ret Tryd.prog 22 #[u1, strV cm, strV ct, .int .i64 (-1)] w1 fun u w5 => u = strV (rowQ cm fs) ∧ Only (fun _ => False) w4 w5 := fun w1 ho => (Row_q u1 fs cm ct w1 (hr1.new ho) (by omega) (fun g hg => by have := hfn.2 g hg; omega) (by omega)).mono fun u w5 h5 => ⟨h5.1, ho.trans h5.2⟩
      refine W_seq ?_
      refine W_region ?_
      refine V (x_bin rfl rfl (bt (decide_eq_true (by omega)))) rfl ?_
      refine WL_nil ?_
      refine W_seq ?_
      refine W_true (rfl) ?_
      refine W_skip ?_
      refine W_seq ?_
      refine W_block ?_
      refine W_seq ?_
      refine W_region ?_
      refine V (x_index (i := i4) Tryd.underlying27 sz30 rfl rfl rfl (by omega)) rfl ?_
      refine V (x_load ld30 rfl hc1) rfl ?_
      refine V (x_assign (by conv => lhs; whnf)) rfl ?_
      refine WL_nil ?_
      refine W_quiet (fun w1 => Only (fun _ => False) w4 w1) mixed (by kernel_rfl) (Only.drew _ _) ?_
      refine B (fun w1 hw1 => x_move (by conv => lhs; whnf)) rfl ?_
      refine B (fun w1 hw1 => x_move (by conv => lhs; whnf)) rfl ?_
      refine B (fun w1 hw1 => x_loadA Tryd.underlying23 (cs := (o.set o.lz).cells) szO rfl (hO4i.only hw1 id)) rfl ?_
      refine BC (fun _ => x_call1 cf18 (by conv => lhs; whnf)) (fun w1 hw1 => hcom w1 hw1) rfl ?_
      refine B (fun w1 hw1 => x_loadA Tryd.underlying23 (cs := (o.set o.lz).cells) szO rfl (hO4i.only hw1 id)) rfl ?_
      refine BC (fun _ => x_call1 cf23 (by conv => lhs; whnf)) (fun w1 hw1 => hcmt w1 hw1) rfl ?_
      refine BC (fun _ => x_call4 cf22 rfl rfl rfl rfl) (fun w1 hw1 => hrw w1 hw1) rfl ?_
      refine B (fun w1 hw1 => x_sv_add (m := [10]) rfl rfl (by simp; omega)) rfl ?_
      refine B (fun w1 hw1 => x_sv_add rfl rfl (by simp; omega)) rfl ?_
      refine B (fun w1 hw1 => x_assign (by conv => lhs; whnf)) rfl ?_
      refine BN ?_
      intro w1 hw1
      refine W_region ?_
      refine V (x_bin rfl rfl (ib_addn (m := i4 + 1) (by omega) (by omega))) rfl ?_
      refine V (x_move (by conv => lhs; whnf)) rfl ?_
      refine WL_nil ?_
      repeat (first | with_reducible refine xt ?_ | with_reducible refine xb ?_ | with_reducible refine nt ?_ | with_reducible refine nb ?_ | with_reducible refine xn rfl ?_)
      exact ⟨3 - (i4 + 1), by omega, i4 + 1, by omega, rfl, rfl, rfl, by rw [hsn]; rfl, hwv3.symm, rfl, rfl, hO4.trans hw1⟩
    · have hif : (keptTab f).take i4 = keptTab f := List.take_of_length_le (by omega)
      rw [hif] at k9
      obtain ⟨hG4, hU4⟩ := tabs w4 hw4
      have hq13 : (13 : UInt8) ∉ tabQ cm (keptTab f) := no13_tabQ hcm.no13 fun fs hfs => by
        simp only [keptTab, List.mem_cons, List.mem_nil_iff, or_false] at hfs
        rcases hfs with rfl | rfl | rfl
        · intro g hg; rw [List.mem_singleton] at hg; subst hg; exact hk13
        · intro g hg
          simp only [List.mem_cons, List.mem_nil_iff, or_false] at hg
          rcases hg with rfl | rfl
          · decide
          · exact hk13
        · intro g hg; rw [List.mem_singleton] at hg; subst hg; decide
      have htab : Tab cm (o.set o.lz).lz (o.set o.lz).ct (tabQ cm (keptTab f)) (keptTab f) := by
        have := tab_q (cm := cm) (lz := (o.set o.lz).lz) (ct := (o.set o.lz).ct) Tab.nil (keptTab f) (fun fs hfs => by
          simp only [keptTab, List.mem_cons, List.mem_nil_iff, or_false] at hfs
          rcases hfs with rfl | rfl | rfl <;> simp) (by rw [List.append_nil]; exact hq13)
        rwa [List.append_nil, List.append_nil] at this
      have hall := implReadAll_sv (tabQ cm (keptTab f)) (o.set o.lz) er w4 (keptTab f) hG4 hU4 hb rfl rfl (by rw [hcmE]; exact htab) (by omega) (by omega)
      have eG : e4 = upd (upd (upd (upd (upd e4 3 (.pointer (some ⟨w.heap.size, 0, none⟩))) 8 v8) 9 (strV (tabQ cm (keptTab f)))) 54 (.int .i64 3)) 55 (.int .i64 (i4 : Int)) := by simp only [upd_self k3, upd_self k8, upd_self k9, upd_self k54, upd_self k55]
      rw [eG]
      refine W_seq ?_
      refine W_region ?_
      refine V (x_bin rfl rfl (bf (decide_eq_false (by omega)))) rfl ?_
      refine WL_nil ?_
      refine W_seq ?_
      refine W_false (rfl) ?_
      refine W_exit ?_
      repeat (first | with_reducible refine xt ?_ | with_reducible refine xb ?_ | with_reducible refine nt ?_ | with_reducible refine nb ?_ | with_reducible refine xn rfl ?_)
      refine W_seq ?_
      refine W_region ?_
      refine V (x_move (by conv => lhs; whnf)) rfl ?_
      refine V (x_loadA Tryd.underlying23 (cs := (o.set o.lz).cells) szO rfl hO4i) rfl ?_
      refine C (x_call2 cf19 (by conv => lhs; whnf) (by conv => lhs; whnf)) rfl ?_
      refine hall.mono fun v w5 h5 => ?_
      obtain ⟨vs, rows, rfl, hV, ho5⟩ := h5
      refine V (x_move (by conv => lhs; whnf)) rfl ?_
      refine V (x_extract rfl rfl) rfl ?_
      refine V (x_extract rfl rfl) rfl ?_
      refine V (x_assign (by conv => lhs; whnf)) rfl ?_
      refine V (x_assign (by conv => lhs; whnf)) rfl ?_
      refine WL_nil ?_
      refine W_seq ?_
      refine W_region ?_
      refine V (x_move (by conv => lhs; whnf)) rfl ?_
      refine V (x_bin rfl rfl (bt rfl)) rfl ?_
      refine V (x_move (by conv => lhs; whnf)) rfl ?_
      refine VG rfl (x_move (by conv => lhs; whnf)) rfl ?_
      refine VG rfl (x_move (by conv => lhs; whnf)) rfl ?_
      refine CG rfl (x_call2 cf20 (by conv => lhs; whnf) (by conv => lhs; whnf)) rfl ?_
      refine (Same_ok vs v8 (keptTab f) w5 hV.read ((hT8.new hO4).new ho5) (by omega) (fun fs hfs => by have := (hrow fs hfs).1; omega)).mono fun v w6 h6 => ?_
      obtain ⟨rfl, ho6⟩ := h6
      refine V (x_pick_t rfl (by conv => lhs; whnf)) rfl ?_
      refine V (x_assign (by conv => lhs; whnf)) rfl ?_
      refine WL_nil ?_
      refine W_ret ?_
      repeat (with_reducible (first | refine rt ?_ | refine rb ?_))
      exact bodyE_1 rfl rfl ⟨rfl, (hw4.trans ho5).trans ho6⟩
end Go.Proofs.YtcdhbfhijkdfoaaDoor
