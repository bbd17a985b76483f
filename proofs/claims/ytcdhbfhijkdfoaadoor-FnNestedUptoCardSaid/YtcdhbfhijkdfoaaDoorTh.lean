/-
  laws.proper; tables that came in; how long written tables are.
-/
import Derived.Test.YtcdhbfhijkdfoaaDoorTg
import Derived.Test.YtcdhbfhijkdfoaaDoorRows
import Derived.Deep.Strs
import Derived.WalkKit
import Derived.ProofKit
namespace Go.Proofs.YtcdhbfhijkdfoaaDoor
open Go.EC Go.RowKit
theorem tabQ_app (cm : Bytes) (a b : List (List Bytes)) : tabQ cm (a ++ b) = tabQ cm a ++ tabQ cm b := by unfold tabQ; rw [List.map_append, List.flatten_append]
def rowOk (fs : List Bytes) : Bool := !fs.isEmpty && fs.all fun f => !hasB f [13]
def properB (tbl : List (List Bytes)) : Bool := tbl.all rowOk
theorem properB_spec {tbl : List (List Bytes)} (h : properB tbl = true) : ∀ fs ∈ tbl, fs ≠ [] ∧ ∀ f ∈ fs, (13 : UInt8) ∉ f := fun fs hfs => by
  unfold properB at h
  have h1 := List.all_eq_true.1 h fs hfs
  unfold rowOk at h1
  rw [Bool.and_eq_true] at h1
  refine ⟨fun hh => by rw [hh] at h1; simp at h1, fun f hf => ?_⟩
  have h2 := List.all_eq_true.1 h1.2 f hf
  exact hasB_one (by simpa using h2)
theorem properB_no {tbl : List (List Bytes)} {i : Nat} (hi : i < tbl.length) (h : rowOk tbl[i] = false) : properB tbl = false := by
  unfold properB
  rw [List.all_eq_false]
  exact ⟨tbl[i], List.getElem_mem _, by simp [h]⟩
theorem proper_ok (v : Value) (tbl : List (List Bytes)) (w : World) (h : RdTab w v tbl) (hN : tbl.length ≤ 2147487744) (hN2 : ∀ fs ∈ tbl, fs.length ≤ 2147487744 ∧ ∀ f ∈ fs, f.length ≤ 2147487744) :
    Ret Tryd.prog 21 #[v] w fun u w' => u = .bool (properB tbl) ∧ w = w' := by
  refine ret_of_W Tryd.func21 rfl (Nat.le_of_ble_eq_true rfl) ?_
  obtain ⟨A, c, hv⟩ : ∃ A c, v = .slice A tbl.length c := by obtain ⟨A, c, _, h, _⟩ := h; exact ⟨A, c, h⟩
  conv => arg 3; whnf
  refine W_seq ?_
  refine W_region ?_
  refine V (x_assign (by conv => lhs; whnf)) rfl ?_
  refine WL_nil ?_
  refine W_seq ?_
  refine W_seq ?_
  refine W_region ?_
  refine V (x_move (by conv => lhs; whnf)) rfl ?_
  refine V (x_len_slice Tryd.underlying27 hv) rfl ?_
  refine V (x_move (by conv => lhs; whnf)) rfl ?_
  refine WL_nil ?_
  refine W_block ?_
  refine W_loop (fun K e w' => ∃ i : Nat, i ≤ tbl.length ∧ K = tbl.length - i ∧ e 7 = v ∧ e 8 = .int .i64 (tbl.length : Int) ∧ e 9 = .int .i64 (i : Int) ∧ (∀ j, j < i → ∀ hj : j < tbl.length, rowOk (tbl[j]'hj) = true) ∧ w = w') (k0 := tbl.length) ⟨0, Nat.zero_le _, by omega, rfl, rfl, rfl, fun j hj => by omega, rfl⟩ ?_
  rintro K e w1 ⟨i, hi, rfl, e7, e8, e9, hok, rfl⟩
  by_cases hlt : i < tbl.length
  · obtain ⟨g1, o1, d1, u1, hw1, hc1, hr1⟩ := h.at_ hlt
    have hfn := hN2 _ (List.getElem_mem hlt)
    have hno := fun hr => properB_no hlt hr
    generalize hfs : tbl[i] = fs at hr1 hfn hno
    obtain ⟨B1, q1, hu1, _⟩ := (show RdRow w u1 fs from hr1)
    have eE : e = upd (upd (upd e 7 (.slice (some ⟨g1, o1, none⟩) tbl.length d1)) 8 (.int .i64 (tbl.length : Int))) 9 (.int .i64 (i : Int)) := by simp only [upd_self (e7.trans hw1), upd_self e8, upd_self e9]
    rw [eE]
    by_cases hfe : fs.length = 0
    · rw [hno (by rw [List.eq_nil_of_length_eq_zero hfe]; rfl)]
      refine W_seq ?_
      refine W_region ?_
      refine V (x_bin rfl rfl (bt (decide_eq_true (by omega)))) rfl ?_
      refine WL_nil ?_
      refine W_seq ?_
      refine W_true (rfl) ?_
      refine W_skip ?_
      refine W_seq ?_
      refine W_block ?_
      refine W_seq ?_
      refine W_region ?_
      refine V (x_index (i := i) Tryd.underlying27 sz30 rfl rfl rfl (by omega)) rfl ?_
      refine V (x_load ld30 rfl hc1) rfl ?_
      refine V (x_assign (by conv => lhs; whnf)) rfl ?_
      refine WL_nil ?_
      refine W_seq ?_
      refine W_seq ?_
      refine W_region ?_
      refine V (x_move (by conv => lhs; whnf)) rfl ?_
      refine V (x_len_slice Tryd.underlying30 hu1) rfl ?_
      refine V (x_bin rfl rfl (bt (beq_iff_eq.2 (by omega)))) rfl ?_
      refine WL_nil ?_
      refine W_true (rfl) ?_
      refine W_seq ?_
      refine W_region ?_
      refine V (x_assign (by conv => lhs; whnf)) rfl ?_
      refine WL_nil ?_
      refine W_ret ?_
      repeat (with_reducible (first | refine rt ?_ | refine rb ?_))
      exact bodyE_1 rfl rfl ⟨rfl, rfl⟩
    · skip
      refine W_seq ?_
      refine W_region ?_
      refine V (x_bin rfl rfl (bt (decide_eq_true (by omega)))) rfl ?_
      refine WL_nil ?_
      refine W_seq ?_
      refine W_true (rfl) ?_
      refine W_skip ?_
      refine W_seq ?_
      refine W_block ?_
      refine W_seq ?_
      refine W_region ?_
      refine V (x_index (i := i) Tryd.underlying27 sz30 rfl rfl rfl (by omega)) rfl ?_
      refine V (x_load ld30 rfl hc1) rfl ?_
      refine V (x_assign (by conv => lhs; whnf)) rfl ?_
      refine WL_nil ?_
      refine W_seq ?_
      refine W_seq ?_
      refine W_region ?_
      refine V (x_move (by conv => lhs; whnf)) rfl ?_
      refine V (x_len_slice Tryd.underlying30 hu1) rfl ?_
      refine V (x_bin rfl rfl (bf (beq_eq_false_iff_ne.2 (by omega)))) rfl ?_
      refine WL_nil ?_
      refine W_false (rfl) ?_
      refine W_skip ?_
      refine W_seq ?_
      refine W_region ?_
      refine V (x_move (by conv => lhs; whnf)) rfl ?_
      refine V (x_len_slice Tryd.underlying30 hu1) rfl ?_
      refine V (x_move (by conv => lhs; whnf)) rfl ?_
      refine WL_nil ?_
      refine W_block ?_
      refine W_loop (fun K e w' => ∃ k : Nat, k ≤ fs.length ∧ K = fs.length - k ∧ e 7 = v ∧ e 8 = .int .i64 (tbl.length : Int) ∧ e 9 = .int .i64 (i : Int) ∧ e 16 = u1 ∧ e 17 = .int .i64 (fs.length : Int) ∧ e 18 = .int .i64 (k : Int) ∧ (∀ j, j < k → ∀ hj : j < fs.length, hasB (fs[j]'hj) [13] = false) ∧ w = w') (k0 := fs.length) ⟨0, Nat.zero_le _, by omega, hw1.symm, rfl, rfl, rfl, rfl, rfl, fun j hj => by omega, rfl⟩ ?_
      rintro K e3 w3 ⟨k, hk, rfl, f7, f8, f9, f16, f17, f18, hno3, rfl⟩
      by_cases hkl : k < fs.length
      · obtain ⟨m1, p1, r1, hx1, hy1⟩ := hr1.at_ hkl
        have hfl := hfn.2 _ (List.getElem_mem hkl)
        have hmem : fs[k] ∈ fs := List.getElem_mem hkl
        generalize hfk : fs[k] = f at hy1 hfl hmem
        have hHas := Has_ok f [13] w (by omega) (by simp)
        have eF : e3 = upd (upd (upd (upd (upd (upd e3 7 v) 8 (.int .i64 (tbl.length : Int))) 9 (.int .i64 (i : Int))) 16 (.slice (some ⟨m1, p1, none⟩) fs.length r1)) 17 (.int .i64 (fs.length : Int))) 18 (.int .i64 (k : Int)) := by simp only [upd_self f7, upd_self f8, upd_self f9, upd_self (f16.trans hx1), upd_self f17, upd_self f18]
        rw [eF]
        cases hh : hasB f [13]
        · rw [hh] at hHas
          refine W_seq ?_
          refine W_region ?_
          refine V (x_bin rfl rfl (bt (decide_eq_true (by omega)))) rfl ?_
          refine WL_nil ?_
          refine W_seq ?_
          refine W_true (rfl) ?_
          refine W_skip ?_
          refine W_seq ?_
          refine W_block ?_
          refine W_seq ?_
          refine W_region ?_
          refine V (x_index (i := k) Tryd.underlying30 sz9 rfl rfl rfl (by omega)) rfl ?_
          refine V (x_load ld9 rfl hy1) rfl ?_
          refine V (x_assign (by conv => lhs; whnf)) rfl ?_
          refine WL_nil ?_
          refine W_seq ?_
          refine W_region ?_
          refine V (x_move (by conv => lhs; whnf)) rfl ?_
          refine C (x_call2 cf17 (by conv => lhs; whnf) (by conv => lhs; whnf)) rfl ?_
          refine hHas.mono fun v w4 h4 => ?_
          obtain ⟨rfl, rfl⟩ := h4
          refine WL_nil ?_
          refine W_false (rfl) ?_
          refine W_skip ?_
          refine W_region ?_
          refine V (x_bin rfl rfl (ib_addn (m := k + 1) (by omega) (by omega))) rfl ?_
          refine V (x_move (by conv => lhs; whnf)) rfl ?_
          refine WL_nil ?_
          repeat (first | with_reducible refine xt ?_ | with_reducible refine xb ?_ | with_reducible refine nt ?_ | with_reducible refine nb ?_ | with_reducible refine xn rfl ?_)
          refine ⟨fs.length - (k + 1), by omega, k + 1, by omega, rfl, rfl, rfl, rfl, hx1.symm, rfl, rfl, fun j hj hjl => ?_, rfl⟩
          rcases Nat.lt_or_eq_of_le (Nat.le_of_lt_succ hj) with h5 | h5
          · exact hno3 j h5 hjl
          · subst h5; rw [hfk]; exact hh
        · rw [hh] at hHas
          rw [hno (by
            unfold rowOk
            rw [Bool.and_eq_false_iff]
            right
            rw [List.all_eq_false]
            exact ⟨f, hmem, by simp [hh]⟩)]
          refine W_seq ?_
          refine W_region ?_
          refine V (x_bin rfl rfl (bt (decide_eq_true (by omega)))) rfl ?_
          refine WL_nil ?_
          refine W_seq ?_
          refine W_true (rfl) ?_
          refine W_skip ?_
          refine W_seq ?_
          refine W_block ?_
          refine W_seq ?_
          refine W_region ?_
          refine V (x_index (i := k) Tryd.underlying30 sz9 rfl rfl rfl (by omega)) rfl ?_
          refine V (x_load ld9 rfl hy1) rfl ?_
          refine V (x_assign (by conv => lhs; whnf)) rfl ?_
          refine WL_nil ?_
          refine W_seq ?_
          refine W_region ?_
          refine V (x_move (by conv => lhs; whnf)) rfl ?_
          refine C (x_call2 cf17 (by conv => lhs; whnf) (by conv => lhs; whnf)) rfl ?_
          refine hHas.mono fun v w4 h4 => ?_
          obtain ⟨rfl, rfl⟩ := h4
          refine WL_nil ?_
          refine W_true (rfl) ?_
          refine W_seq ?_
          refine W_region ?_
          refine V (x_assign (by conv => lhs; whnf)) rfl ?_
          refine WL_nil ?_
          refine W_ret ?_
          repeat (with_reducible (first | refine rt ?_ | refine rb ?_))
          exact bodyE_1 rfl rfl ⟨rfl, rfl⟩
      · have eF : e3 = upd (upd (upd (upd (upd e3 7 v) 8 (.int .i64 (tbl.length : Int))) 9 (.int .i64 (i : Int))) 17 (.int .i64 (fs.length : Int))) 18 (.int .i64 (k : Int)) := by simp only [upd_self f7, upd_self f8, upd_self f9, upd_self f17, upd_self f18]
        rw [eF]
        refine W_seq ?_
        refine W_region ?_
        refine V (x_bin rfl rfl (bf (decide_eq_false (by omega)))) rfl ?_
        refine WL_nil ?_
        refine W_seq ?_
        refine W_false (rfl) ?_
        refine W_exit ?_
        repeat (first | with_reducible refine xt ?_ | with_reducible refine xb ?_ | with_reducible refine nt ?_ | with_reducible refine nb ?_ | with_reducible refine xn rfl ?_)
        refine W_region ?_
        refine V (x_bin rfl rfl (ib_addn (m := i + 1) (by omega) (by omega))) rfl ?_
        refine V (x_move (by conv => lhs; whnf)) rfl ?_
        refine WL_nil ?_
        repeat (first | with_reducible refine xt ?_ | with_reducible refine xb ?_ | with_reducible refine nt ?_ | with_reducible refine nb ?_ | with_reducible refine xn rfl ?_)
        refine ⟨tbl.length - (i + 1), by omega, i + 1, by omega, rfl, rfl, rfl, rfl, fun j hj hjl => ?_, rfl⟩
        rcases Nat.lt_or_eq_of_le (Nat.le_of_lt_succ hj) with h5 | h5
        · exact hok j h5 hjl
        · subst h5
          rw [hfs]
          unfold rowOk
          rw [Bool.and_eq_true]
          refine ⟨by simp; rintro rfl; simp at hfe, ?_⟩
          rw [List.all_eq_true]
          intro f hf
          obtain ⟨m, hm, rfl⟩ := List.getElem_of_mem hf
          simp [hno3 m (by omega) hm]
  · have eE : e = upd (upd (upd e 7 v) 8 (.int .i64 (tbl.length : Int))) 9 (.int .i64 (i : Int)) := by simp only [upd_self e7, upd_self e8, upd_self e9]
    have hall : properB tbl = true := by
      unfold properB
      rw [List.all_eq_true]
      intro fs hfs
      obtain ⟨m, hm, rfl⟩ := List.getElem_of_mem hfs
      exact hok m (by omega) hm
    rw [eE, hall]
    refine W_seq ?_
    refine W_region ?_
    refine V (x_bin rfl rfl (bf (decide_eq_false (by omega)))) rfl ?_
    refine WL_nil ?_
    refine W_seq ?_
    refine W_false (rfl) ?_
    refine W_exit ?_
    repeat (first | with_reducible refine xt ?_ | with_reducible refine xb ?_ | with_reducible refine nt ?_ | with_reducible refine nb ?_ | with_reducible refine xn rfl ?_)
    refine W_seq ?_
    refine W_region ?_
    refine V (x_assign (by conv => lhs; whnf)) rfl ?_
    refine WL_nil ?_
    refine W_ret ?_
    repeat (with_reducible (first | refine rt ?_ | refine rb ?_))
    exact bodyE_1 rfl rfl ⟨rfl, rfl⟩

/-! How long written tables are. -/
def wRow (fs : List Bytes) : Nat := (fs.map fun f => f.length + 1).sum
def wTab (tbl : List (List Bytes)) : Nat := (tbl.map fun fs => wRow fs + 1).sum
theorem quotedB_len (f : Bytes) : (quotedB f).length ≤ 2 * f.length + 2 := by
  have := dblB_len f
  unfold quotedB
  simp
  omega
theorem joinB_len {cm : Bytes} (hc : cm.length ≤ 4) (l : List Bytes) : (joinB cm l).length ≤ (l.map fun x => x.length + 4).sum := by
  cases l with
  | nil => simp [joinB]
  | cons x l =>
    unfold joinB
    have h : ((l.map (cm ++ ·)).flatten).length ≤ (l.map fun x => x.length + 4).sum := by
      induction l with
      | nil => simp
      | cons y l ih => simp only [List.map_cons, List.flatten_cons, List.length_append, List.sum_cons]; omega
    simp only [List.length_append, List.map_cons, List.sum_cons]
    omega
theorem rowQ_len {cm : Bytes} (hc : cm.length ≤ 4) (fs : List Bytes) : (rowQ cm fs).length ≤ 6 * wRow fs := by
  refine Nat.le_trans (joinB_len hc _) ?_
  induction fs with
  | nil => simp [wRow]
  | cons f fs ih =>
    have := quotedB_len f
    unfold wRow at *
    simp only [List.map_cons, List.sum_cons]
    omega
theorem tabQ_len {cm : Bytes} (hc : cm.length ≤ 4) (tbl : List (List Bytes)) : (tabQ cm tbl).length ≤ 6 * wTab tbl := by
  induction tbl with
  | nil => simp [tabQ, wTab]
  | cons fs tbl ih =>
    have h := rowQ_len hc fs
    have he : tabQ cm (fs :: tbl) = (rowQ cm fs ++ [10]) ++ tabQ cm tbl := by simp [tabQ]
    rw [he]
    unfold wTab at *
    simp only [List.length_append, List.map_cons, List.sum_cons, List.length_singleton]
    omega
theorem wRow_mem {fs : List Bytes} {f : Bytes} (h : f ∈ fs) : f.length + 1 ≤ wRow fs := by
  induction fs with
  | nil => cases h
  | cons g fs ih =>
    unfold wRow at *
    simp only [List.map_cons, List.sum_cons]
    rcases List.mem_cons.1 h with rfl | h
    · omega
    · have := ih h; omega
theorem wTab_mem {tbl : List (List Bytes)} {fs : List Bytes} (h : fs ∈ tbl) : wRow fs + 1 ≤ wTab tbl := by
  induction tbl with
  | nil => cases h
  | cons g tbl ih =>
    unfold wTab at *
    simp only [List.map_cons, List.sum_cons]
    rcases List.mem_cons.1 h with rfl | h
    · omega
    · have := ih h; omega
theorem wRow_len (fs : List Bytes) : fs.length ≤ wRow fs := by
  induction fs with
  | nil => simp
  | cons g fs ih => unfold wRow at *; simp only [List.map_cons, List.sum_cons, List.length_cons]; omega
theorem wTab_len (tbl : List (List Bytes)) : tbl.length ≤ wTab tbl := by
  induction tbl with
  | nil => simp
  | cons g tbl ih => unfold wTab at *; simp only [List.map_cons, List.sum_cons, List.length_cons]; omega

/-! Slices of strings, and of such slices, that came in. -/
section
variable {H : Type} {enc : TypeId × Value → H} {W : World}
theorem bulk_map {α : Type} (l : List α) (D : α → DataW H) (f : α → Nat) (h : ∀ x ∈ l, f x ≤ Rows.uptoBulk (D x)) : (l.map f).sum ≤ Rows.uptoBulkAll (l.map D) := by
  induction l with
  | nil => simp
  | cons x l ih =>
    have h1 := h x (by simp)
    have h2 := ih fun y hy => h y (by simp [hy])
    simp only [List.map_cons, List.sum_cons, Rows.uptoBulkAll]
    omega
theorem open_row0 {fuel : Nat} {v : Value} {x : DataW H × List MemPlace} (hc : Tryd.prog.cellsOf 9 = 1) (h : DataW.trod enc Tryd.prog W 0 (fun _ => true) true fuel 30 [v] = some x) : ∃ fs : List Bytes, RdRow W v fs ∧ wRow fs + 1 ≤ Rows.uptoBulk x.1 := by
  rcases Deep.open_strs Tryd.underlying30 Tryd.underlying9 hc h with ⟨hcs, rfl⟩ | ⟨a, len, cap, m, Sx, hcs, _, hl, _, hm, rfl, hx⟩
  · simp at hcs
    subst hcs
    exact ⟨[], ⟨_, _, rfl, Cells.nil _ _⟩, by simp [wRow, Rows.uptoBulk]⟩
  · simp at hcs hm
    subst hcs hm
    refine ⟨(List.range len).map fun i => (Sx i).data.toList, ⟨some a, m, by simp, fun hn => ?_⟩, ?_⟩
    · have h0 : 0 < len := by
        rcases Nat.eq_zero_or_pos len with h1 | h1
        · subst h1; simp at hn
        · exact h1
      obtain ⟨b, off, spot⟩ := a
      have hspot : spot = none := by simpa [Addr.add] using World.cell?_spot (hx 0 (by omega)).1
      subst hspot
      refine ⟨b, off, rfl, fun j u hu => ?_⟩
      have hj : j < len := by
        have := (List.getElem?_eq_some_iff.1 hu).1
        simpa using this
      have h2 := (hx j (by omega)).1
      rw [add_none] at h2
      rw [h2, sv_of]
      simp [hj] at hu
      rw [hu]
    · simp only [Rows.uptoBulk]
      have h3 := bulk_map (H := H) (List.range len) (fun i => .lit (.string (Sx i).data.toList)) (fun i => (Sx i).data.toList.length + 1) (fun i _ => by simp [Rows.uptoBulk])
      unfold wRow
      rw [List.map_map]
      have h4 : ((fun f : Bytes => f.length + 1) ∘ fun i => (Sx i).data.toList) = fun i => (Sx i).data.toList.length + 1 := rfl
      rw [h4]
      omega
theorem open_tab {fuel : Nat} {v : Value} {x : DataW H × List MemPlace} (hc : Tryd.prog.cellsOf 9 = 1) (hc30 : Tryd.prog.cellsOf 30 = 1) (h : DataW.trod enc Tryd.prog W 0 (fun _ => true) true fuel 27 [v] = some x) : ∃ tbl : List (List Bytes), RdTab W v tbl ∧ wTab tbl + 1 ≤ Rows.uptoBulk x.1 := by
  rcases Deep.open_slice1 Tryd.underlying27 hc30 h with ⟨hcs, rfl⟩ | ⟨a, len, cap, m, n, V, D, Pl, hcs, _, hl, _, hm, rfl, hx⟩
  · simp at hcs
    subst hcs
    exact ⟨[], ⟨_, _, [], rfl, rfl, Cells.nil _ _, fun j u fs hj => by simp at hj⟩, by simp [wTab, Rows.uptoBulk]⟩
  · simp at hcs hm
    subst hcs hm
    have each : ∀ i, i < len → ∃ fs : List Bytes, RdRow W (V i) fs ∧ wRow fs + 1 ≤ Rows.uptoBulk (D i) := fun i hi => open_row0 hc (hx i (by omega)).2
    obtain ⟨Fs, hF⟩ := Deep.choose_lt each
    refine ⟨(List.range len).map Fs, ⟨some a, m, (List.range len).map V, by simp, by simp, fun hn => ?_, fun j u fs hj hf => ?_⟩, ?_⟩
    · have h0 : 0 < len := by
        rcases Nat.eq_zero_or_pos len with h1 | h1
        · subst h1; simp at hn
        · exact h1
      obtain ⟨b, off, spot⟩ := a
      have hspot : spot = none := by simpa [Addr.add] using World.cell?_spot (hx 0 (by omega)).1
      subst hspot
      refine ⟨b, off, rfl, fun j u hu => ?_⟩
      have hj : j < len := by
        have := (List.getElem?_eq_some_iff.1 hu).1
        simpa using this
      have h2 := (hx j (by omega)).1
      rw [add_none] at h2
      rw [h2]
      simp [hj] at hu
      rw [hu]
    · have hj' : j < len := by
        have := (List.getElem?_eq_some_iff.1 hj).1
        simpa using this
      simp [hj'] at hj hf
      rw [← hj, ← hf]
      exact (hF j hj').1
    · simp only [Rows.uptoBulk]
      have h3 := bulk_map (H := H) (List.range len) D (fun i => wRow (Fs i) + 1) (fun i hi => (hF i (List.mem_range.1 hi)).2)
      unfold wTab
      rw [List.map_map]
      have h4 : ((fun fs : List Bytes => wRow fs + 1) ∘ Fs) = fun i => wRow (Fs i) + 1 := rfl
      rw [h4]
      omega
theorem cells9' : Tryd.prog.cellsOf 9 = 1 := by kernel_rfl
theorem cells30' : Tryd.prog.cellsOf 30 = 1 := by kernel_rfl
set_option maxRecDepth 100000 in
theorem open_tabT {r : Reach} {b0 : Nat} {v : Value} {d : DataW H} {p : List MemPlace} (hv : Value.okWide Tryd.prog W r b0 27 v) (h : DataW.Trod enc Tryd.prog W 0 (fun _ => true) true 27 v d p) : ∃ tbl : List (List Bytes), RdTab W v tbl ∧ wTab tbl + 1 ≤ Rows.uptoBulk d := by
  obtain ⟨A, n, c, rfl⟩ := WideShapes.okWide_slice Tryd.underlying27 hv
  obtain ⟨fuel, hf⟩ := h
  exact open_tab cells9' cells30' hf
set_option maxRecDepth 100000 in
theorem open_rowT {r : Reach} {b0 : Nat} {v : Value} {d : DataW H} {p : List MemPlace} (hv : Value.okWide Tryd.prog W r b0 30 v) (h : DataW.Trod enc Tryd.prog W 0 (fun _ => true) true 30 v d p) : ∃ fs : List Bytes, RdRow W v fs ∧ wRow fs + 1 ≤ Rows.uptoBulk d := by
  obtain ⟨A, n, c, rfl⟩ := WideShapes.okWide_slice Tryd.underlying30 hv
  obtain ⟨fuel, hf⟩ := h
  exact open_row0 cells9' hf
end
end Go.Proofs.YtcdhbfhijkdfoaaDoor
