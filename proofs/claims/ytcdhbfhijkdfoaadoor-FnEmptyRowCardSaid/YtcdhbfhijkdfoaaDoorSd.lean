/-
  Tables that are read; spec.Same of equal tables.
-/
import Derived.Test.YtcdhbfhijkdfoaaDoorSc
namespace Go.EC
theorem x_str_neq_same {P : Program} {e : Env} {w : World} {d : Option Nat} {ty : TypeId} {pos : String} {af : Array Edge} {g : Option (Nat × Bool)} {t t' : TypeId} {x y : Operand} {a : ByteArray} (hx : ev e x = .string a) (hy : ev e y = .string a) :
    (execOp (ev e) ⟨d, .binOp .neq t x y t', ty, pos, af, g⟩).run P w = .ok (.value (.bool false)) w := by
  rw [x_str_neq hx hy]; simp
end Go.EC
namespace Go.EC
open Go.RowKit
theorem Cells.new {w w' : World} {A : Option Addr} {xs : List Value} (h : Cells w A xs) (ho : Only (fun _ => False) w w') : Cells w' A xs := fun hn => by
  obtain ⟨g, o, hA, hc⟩ := h hn
  exact ⟨g, o, hA, fun j u hu => (World.cell?_of_block (ho.block g (cell_lt (hc j u hu)) id)).trans (hc j u hu)⟩
theorem Own.cells {w : World} {t : TypeId} {v : Value} {n : Nat} {xs : List Value} (h : Own w t 1 v n xs) : ∃ A c, v = .slice A n c ∧ Cells w A xs := by
  obtain ⟨A, c, hv, _, _⟩ := h.form
  refine ⟨A, c, hv, fun hn => ?_⟩
  obtain ⟨g, hA, _, hc⟩ := h.cell hv hn
  exact ⟨g, 0, hA, fun j u hu => by rw [Nat.zero_add]; exact hc j u hu⟩
end Go.EC
namespace Go.Proofs.YtcdhbfhijkdfoaaDoor
open Go.EC Go.RowKit
/-- A row of strings, as it is read. -/
def RdRow (w : World) (u : Value) (fs : List Bytes) : Prop := ∃ A c, u = .slice A fs.length c ∧ Cells w A (fs.map strV)
/-- A table, as it is read. -/
def RdTab (w : World) (v : Value) (tbl : List (List Bytes)) : Prop := ∃ A c rows, v = .slice A tbl.length c ∧ rows.length = tbl.length ∧ Cells w A rows ∧ ∀ (j : Nat) u fs, rows[j]? = some u → tbl[j]? = some fs → RdRow w u fs
section
variable {w w' : World}
theorem RdRow.new {u : Value} {fs : List Bytes} (h : RdRow w u fs) (ho : Only (fun _ => False) w w') : RdRow w' u fs := by
  obtain ⟨A, c, h1, h2⟩ := h
  exact ⟨A, c, h1, h2.new ho⟩
theorem RdTab.new {v : Value} {tbl : List (List Bytes)} (h : RdTab w v tbl) (ho : Only (fun _ => False) w w') : RdTab w' v tbl := by
  obtain ⟨A, c, rows, h1, h2, h3, h4⟩ := h
  exact ⟨A, c, rows, h1, h2, h3.new ho, fun j u fs hj hf => (h4 j u fs hj hf).new ho⟩
theorem TabV.read {v : Value} {rows : List Value} {tbl : List (List Bytes)} (h : TabV w v rows tbl) : RdTab w v tbl := by
  obtain ⟨A, c, hv, hc⟩ := h.own.cells
  have hl := h.own.len
  rw [Nat.mul_one] at hl
  exact ⟨A, c, rows, hv, hl, hc, fun j u fs hj hf => (h.row j u fs hj hf).cells⟩
/-- The cells of row i. -/
theorem RdTab.at_ {v : Value} {tbl : List (List Bytes)} (h : RdTab w v tbl) {i : Nat} (hi : i < tbl.length) : ∃ g o c u, v = .slice (some ⟨g, o, none⟩) tbl.length c ∧ w.cell? ⟨g, o + i, none⟩ = some u ∧ RdRow w u tbl[i] := by
  obtain ⟨A, c, rows, h1, h2, h3, h4⟩ := h
  obtain ⟨g, o, rfl, hc⟩ := h3 (by rintro rfl; simp at h2; omega)
  have hr : rows[i]? = some (rows[i]'(by omega)) := List.getElem?_eq_getElem (by omega)
  exact ⟨g, o, c, _, h1, hc i _ hr, h4 i _ _ hr (List.getElem?_eq_getElem hi)⟩
theorem RdRow.at_ {u : Value} {fs : List Bytes} (h : RdRow w u fs) {k : Nat} (hk : k < fs.length) : ∃ g o c, u = .slice (some ⟨g, o, none⟩) fs.length c ∧ w.cell? ⟨g, o + k, none⟩ = some (strV fs[k]) := by
  obtain ⟨A, c, h1, h2⟩ := h
  obtain ⟨g, o, rfl, hc⟩ := h2 (by intro hh; have := congrArg List.length hh; simp at this; simp [this] at hk)
  exact ⟨g, o, c, h1, hc k _ (by simp [hk])⟩
theorem RdRow.one {u : Value} {fs : List Bytes} (h : RdRow w u fs) : u.oneCell' = true := by obtain ⟨A, c, rfl, _⟩ := h; rfl
end
theorem Same_ok (v1 v2 : Value) (tbl : List (List Bytes)) (w : World) (h1 : RdTab w v1 tbl) (h2 : RdTab w v2 tbl) (hN : tbl.length ≤ 2147487744) (hN2 : ∀ fs ∈ tbl, fs.length ≤ 2147487744) :
    Ret Tryd.prog 20 #[v1, v2] w fun v w' => v = .bool true ∧ Only (fun _ => False) w w' := by
  refine ret_of_W Tryd.func20 rfl (Nat.le_of_ble_eq_true rfl) ?_
  obtain ⟨A1, c1, hv1⟩ : ∃ A c, v1 = .slice A tbl.length c := by obtain ⟨A, c, _, h, _⟩ := h1; exact ⟨A, c, h⟩
  obtain ⟨A2, c2, hv2⟩ : ∃ A c, v2 = .slice A tbl.length c := by obtain ⟨A, c, _, h, _⟩ := h2; exact ⟨A, c, h⟩
  conv => arg 3; whnf
  refine W_seq ?_
  refine W_region ?_
  refine V (x_assign (by conv => lhs; whnf)) rfl ?_
  refine WL_nil ?_
  refine W_seq ?_
  refine W_seq ?_
  refine W_region ?_
  refine V (x_move (by conv => lhs; whnf)) rfl ?_
  refine V (x_len_slice Tryd.underlying27 hv1) rfl ?_
  refine V (x_move (by conv => lhs; whnf)) rfl ?_
  refine V (x_len_slice Tryd.underlying27 hv2) rfl ?_
  refine V (x_bin rfl rfl (bf (bne_eq_false_iff_eq.2 (by omega)))) rfl ?_
  refine WL_nil ?_
  refine W_false (rfl) ?_
  refine W_skip ?_
  refine W_seq ?_
  refine W_seq ?_
  refine W_region ?_
  refine V (x_assign (by conv => lhs; whnf)) rfl ?_
  refine WL_nil ?_
  refine W_block ?_
  refine W_loop (fun K e w' => ∃ i : Nat, i ≤ tbl.length ∧ K = tbl.length - i ∧ e 0 = v1 ∧ e 1 = v2 ∧ e 5 = .int .i64 (i : Int) ∧ Only (fun _ => False) w w') (k0 := tbl.length) ⟨0, Nat.zero_le _, by omega, rfl, rfl, rfl, Only.refl _ _⟩ ?_
  rintro K e w1 ⟨i, hi, rfl, e0, e1, e5, hO⟩
  by_cases hlt : i < tbl.length
  · obtain ⟨g1, o1, d1, u1, hw1, hc1, hr1⟩ := (h1.new hO).at_ hlt
    obtain ⟨g2, o2, d2, u2, hw2, hc2, hr2⟩ := (h2.new hO).at_ hlt
    generalize hfs : tbl[i] = fs at hr1 hr2
    have hfl : fs.length ≤ 2147487744 := hN2 fs (by rw [← hfs]; exact List.getElem_mem _)
    obtain ⟨B1, q1, hu1, _⟩ := (show RdRow w1 u1 fs from hr1)
    obtain ⟨B2, q2, hu2, _⟩ := (show RdRow w1 u2 fs from hr2)
    have eE : e = upd (upd (upd e 0 (.slice (some ⟨g1, o1, none⟩) tbl.length d1)) 1 (.slice (some ⟨g2, o2, none⟩) tbl.length d2)) 5 (.int .i64 (i : Int)) := by simp only [upd_self (e0.trans hw1), upd_self (e1.trans hw2), upd_self e5]
    rw [eE]
    refine W_seq ?_
    refine W_seq ?_
    refine W_region ?_
    refine V (x_move (by conv => lhs; whnf)) rfl ?_
    refine V (x_move (by conv => lhs; whnf)) rfl ?_
    refine V (x_len_slice Tryd.underlying27 rfl) rfl ?_
    refine V (x_bin rfl rfl (bt (decide_eq_true (by omega)))) rfl ?_
    refine WL_nil ?_
    refine W_true (rfl) ?_
    refine W_skip ?_
    refine W_seq ?_
    refine W_block ?_
    refine W_seq ?_
    refine W_seq ?_
    refine W_q mixed (by kernel_rfl) ?_
    refine K (x_move (by conv => lhs; whnf)) rfl ?_
    refine K (x_move (by conv => lhs; whnf)) rfl ?_
    refine K (x_index (i := i) Tryd.underlying27 sz30 rfl rfl rfl (by omega)) rfl ?_
    refine K (x_load ld30 rfl hc1) rfl ?_
    refine K (x_len_slice Tryd.underlying30 hu1) rfl ?_
    refine K (x_move (by conv => lhs; whnf)) rfl ?_
    refine K (x_move (by conv => lhs; whnf)) rfl ?_
    refine K (x_index (i := i) Tryd.underlying27 sz30 rfl rfl rfl (by omega)) rfl ?_
    refine K (x_load ld30 rfl hc2) rfl ?_
    refine K (x_len_slice Tryd.underlying30 hu2) rfl ?_
    refine K (x_bin rfl rfl (bf (bne_eq_false_iff_eq.2 (by omega)))) rfl ?_
    refine KN ?_
    refine W_false (rfl) ?_
    refine W_skip ?_
    refine W_seq ?_
    refine W_region ?_
    refine V (x_assign (by conv => lhs; whnf)) rfl ?_
    refine WL_nil ?_
    refine W_block ?_
    refine W_loop (fun K e w' => ∃ k : Nat, k ≤ fs.length ∧ K = fs.length - k ∧ e 0 = v1 ∧ e 1 = v2 ∧ e 5 = .int .i64 (i : Int) ∧ e 6 = .int .i64 (k : Int) ∧ Only (fun _ => False) w1 w') (k0 := fs.length) ⟨0, Nat.zero_le _, by omega, hw1.symm, hw2.symm, rfl, rfl, Only.drew _ _⟩ ?_
    rintro K e3 w3 ⟨k, hk, rfl, f0, f1, f5, f6, hO3⟩
    have hc1' : w3.cell? ⟨g1, o1 + i, none⟩ = some u1 := (World.cell?_of_block (hO3.block g1 (cell_lt hc1) id)).trans hc1
    have hc2' : w3.cell? ⟨g2, o2 + i, none⟩ = some u2 := (World.cell?_of_block (hO3.block g2 (cell_lt hc2) id)).trans hc2
    have eF : e3 = upd (upd (upd (upd e3 0 (.slice (some ⟨g1, o1, none⟩) tbl.length d1)) 1 (.slice (some ⟨g2, o2, none⟩) tbl.length d2)) 5 (.int .i64 (i : Int))) 6 (.int .i64 (k : Int)) := by simp only [upd_self (f0.trans hw1), upd_self (f1.trans hw2), upd_self f5, upd_self f6]
    rw [eF]
    by_cases hkl : k < fs.length
    · obtain ⟨m1, p1, r1, hx1, hy1⟩ := (hr1.new hO3).at_ hkl
      obtain ⟨m2, p2, r2, hx2, hy2⟩ := (hr2.new hO3).at_ hkl
      rw [hx1] at hc1'
      rw [hx2] at hc2'
      unfold strV at hy1 hy2
      refine W_seq ?_
      refine W_seq ?_
      refine W_region ?_
      refine V (x_move (by conv => lhs; whnf)) rfl ?_
      refine V (x_move (by conv => lhs; whnf)) rfl ?_
      refine V (x_move (by conv => lhs; whnf)) rfl ?_
      refine V (x_index (i := i) Tryd.underlying27 sz30 rfl rfl rfl (by omega)) rfl ?_
      refine V (x_load ld30 rfl hc1') rfl ?_
      refine V (x_len_slice Tryd.underlying30 rfl) rfl ?_
      refine V (x_bin rfl rfl (bt (decide_eq_true (by omega)))) rfl ?_
      refine WL_nil ?_
      refine W_true (rfl) ?_
      refine W_skip ?_
      refine W_seq ?_
      refine W_block ?_
      refine W_seq ?_
      refine W_q mixed (by kernel_rfl) ?_
      refine K (x_move (by conv => lhs; whnf)) rfl ?_
      refine K (x_move (by conv => lhs; whnf)) rfl ?_
      refine K (x_index (i := i) Tryd.underlying27 sz30 rfl rfl rfl (by omega)) rfl ?_
      refine K (x_load ld30 rfl hc1') rfl ?_
      refine K (x_move (by conv => lhs; whnf)) rfl ?_
      refine K (x_index (i := k) Tryd.underlying30 sz9 rfl rfl rfl (by omega)) rfl ?_
      refine K (x_load ld9 rfl hy1) rfl ?_
      refine K (x_move (by conv => lhs; whnf)) rfl ?_
      refine K (x_move (by conv => lhs; whnf)) rfl ?_
      refine K (x_index (i := i) Tryd.underlying27 sz30 rfl rfl rfl (by omega)) rfl ?_
      refine K (x_load ld30 rfl hc2') rfl ?_
      refine K (x_move (by conv => lhs; whnf)) rfl ?_
      refine K (x_index (i := k) Tryd.underlying30 sz9 rfl rfl rfl (by omega)) rfl ?_
      refine K (x_load ld9 rfl hy2) rfl ?_
      refine K (x_str_neq_same rfl rfl) rfl ?_
      refine KN ?_
      refine W_false (rfl) ?_
      refine W_skip ?_
      refine W_region ?_
      refine V (x_move (by conv => lhs; whnf)) rfl ?_
      refine V (x_bin rfl rfl (ib_addn (m := k + 1) (by omega) (by omega))) rfl ?_
      refine V (x_assign (by conv => lhs; whnf)) rfl ?_
      refine WL_nil ?_
      repeat (first | with_reducible refine xt ?_ | with_reducible refine xb ?_ | with_reducible refine nt ?_ | with_reducible refine nb ?_ | with_reducible refine xn rfl ?_)
      exact ⟨fs.length - (k + 1), by omega, k + 1, by omega, rfl, hw1.symm, hw2.symm, rfl, rfl, hO3.trans (Only.drew _ _)⟩
    · skip
      refine W_seq ?_
      refine W_seq ?_
      refine W_region ?_
      refine V (x_move (by conv => lhs; whnf)) rfl ?_
      refine V (x_move (by conv => lhs; whnf)) rfl ?_
      refine V (x_move (by conv => lhs; whnf)) rfl ?_
      refine V (x_index (i := i) Tryd.underlying27 sz30 rfl rfl rfl (by omega)) rfl ?_
      refine V (x_load ld30 rfl hc1') rfl ?_
      refine V (x_len_slice Tryd.underlying30 hu1) rfl ?_
      refine V (x_bin rfl rfl (bf (decide_eq_false (by omega)))) rfl ?_
      refine WL_nil ?_
      refine W_false (rfl) ?_
      refine W_exit ?_
      repeat (first | with_reducible refine xt ?_ | with_reducible refine xb ?_ | with_reducible refine nt ?_ | with_reducible refine nb ?_ | with_reducible refine xn rfl ?_)
      refine W_region ?_
      refine V (x_move (by conv => lhs; whnf)) rfl ?_
      refine V (x_bin rfl rfl (ib_addn (m := i + 1) (by omega) (by omega))) rfl ?_
      refine V (x_assign (by conv => lhs; whnf)) rfl ?_
      refine WL_nil ?_
      repeat (first | with_reducible refine xt ?_ | with_reducible refine xb ?_ | with_reducible refine nt ?_ | with_reducible refine nb ?_ | with_reducible refine xn rfl ?_)
      exact ⟨tbl.length - (i + 1), by omega, i + 1, by omega, rfl, hw1.symm, hw2.symm, rfl, hO.trans hO3⟩
  · have eE : e = upd (upd (upd e 0 (.slice A1 tbl.length c1)) 1 (.slice A2 tbl.length c2)) 5 (.int .i64 (i : Int)) := by simp only [upd_self (e0.trans hv1), upd_self (e1.trans hv2), upd_self e5]
    rw [eE]
    refine W_seq ?_
    refine W_seq ?_
    refine W_region ?_
    refine V (x_move (by conv => lhs; whnf)) rfl ?_
    refine V (x_move (by conv => lhs; whnf)) rfl ?_
    refine V (x_len_slice Tryd.underlying27 rfl) rfl ?_
    refine V (x_bin rfl rfl (bf (decide_eq_false (by omega)))) rfl ?_
    refine WL_nil ?_
    refine W_false (rfl) ?_
    refine W_exit ?_
    repeat (first | with_reducible refine xt ?_ | with_reducible refine xb ?_ | with_reducible refine nt ?_ | with_reducible refine nb ?_ | with_reducible refine xn rfl ?_)
    refine W_seq ?_
    refine W_region ?_
    refine V (x_assign (by conv => lhs; whnf)) rfl ?_
    refine WL_nil ?_
    refine W_ret ?_
    repeat (with_reducible (first | refine rt ?_ | refine rb ?_))
    exact bodyE_1 rfl rfl ⟨rfl, hO⟩
end Go.Proofs.YtcdhbfhijkdfoaaDoor
