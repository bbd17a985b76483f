/-
  FnWrongOptions: the walk.
-/
import Derived.Test.YtcdhbfhijkdfoaaDoorGd
namespace Go.Proofs.YtcdhbfhijkdfoaaDoor
open Go.EC Go.RowKit

theorem eT9 : ElemT Tryd.prog 30 9 1 16 := ⟨Tryd.underlying30, by
  have h : (Tryd.prog.info? 9).map (fun i => (i.zero, i.size, i.bytes)) = some (some (.string ByteArray.empty), 1, 16) := by kernel_rfl
  obtain ⟨i, hi, h2⟩ := Option.map_eq_some_iff.1 h
  simp only [Prod.mk.injEq] at h2
  exact ⟨i, _, hi, h2.1, h2.2.1, h2.2.2, rfl⟩, by decide⟩
theorem eT30 : ElemT Tryd.prog 27 30 1 24 := ⟨Tryd.underlying27, by
  have h : (Tryd.prog.info? 30).map (fun i => (i.zero, i.size, i.bytes)) = some (some (.slice none 0 0), 1, 24) := by kernel_rfl
  obtain ⟨i, hi, h2⟩ := Option.map_eq_some_iff.1 h
  simp only [Prod.mk.injEq] at h2
  exact ⟨i, _, hi, h2.1, h2.2.1, h2.2.2, rfl⟩, by decide⟩
theorem eT3 : ElemT Tryd.prog 38 3 1 8 := ⟨Tryd.underlying38, by
  have h : (Tryd.prog.info? 3).map (fun i => (i.zero, i.size, i.bytes)) = some (some (.int .i64 0), 1, 8) := by kernel_rfl
  obtain ⟨i, hi, h2⟩ := Option.map_eq_some_iff.1 h
  simp only [Prod.mk.injEq] at h2
  exact ⟨i, _, hi, h2.1, h2.2.1, h2.2.2, rfl⟩, by decide⟩
theorem zv30 (w : World) : (zeroValue 30).run Tryd.prog w = .ok (.slice none 0 0) w := by kernel_rfl
theorem zv3 (w : World) : (zeroValue 3).run Tryd.prog w = .ok (.int .i64 0) w := by kernel_rfl
theorem zv9 (w : World) : (zeroValue 9).run Tryd.prog w = .ok (.string ByteArray.empty) w := by kernel_rfl
theorem Glob.new {w w' : World} {er : Nat → Addr} (h : Glob w er) (ho : Only (fun _ => False) w w') : Glob w' er := h.only ho fun _ hk => hk.elim

theorem implReadAll_bad (str : ByteArray) (o : Opt) (er : Nat → Addr) (w : World) (hG : Glob w er) (hb : o.good = false) :
    Ret Tryd.prog 19 #[.string str, .agg o.cells.toArray] w fun v w' => v = .tuple #[.slice none 0 0, .int .i64 4] ∧ Only (fun _ => False) w w' := by
  refine ret_of_W Tryd.func19 rfl (Nat.le_of_ble_eq_true rfl) ?_
  have hO := Blk.new w 23 o.cells
  conv => arg 3; whnf
  refine W_seq ?_
  refine W_region ?_
  refine V (x_box (cs := o.cells) rfl) rfl ?_
  refine V (x_assign (by conv => lhs; whnf)) rfl ?_
  refine V (x_assign (by conv => lhs; whnf)) rfl ?_
  refine WL_nil ?_
  refine W_seq ?_
  refine W_region ?_
  refine V (x_move (by conv => lhs; whnf)) rfl ?_
  refine V (x_loadA Tryd.underlying23 (cs := o.cells) szO rfl hO) rfl ?_
  refine C (x_call2 cf34 (by conv => lhs; whnf) (by conv => lhs; whnf)) rfl ?_
  refine (reader_ok str o _).mono fun v w1 h1 => ?_
  obtain ⟨a, b, g, s, rfl, hC, hB, hGg, hS, ho1, la, lb, lg, ls⟩ := h1
  have hG1 := (hG.new (Only.alloc _ w _)).new ho1
  refine C (x_call1 cf35 (by conv => lhs; whnf)) rfl ?_
  refine (ReadAll_bad a _ er _ hC hG1 (Opt.bad hb)).mono fun v w2 h2 => ?_
  obtain ⟨rfl, hs2⟩ := h2
  refine V (x_move (by conv => lhs; whnf)) rfl ?_
  refine V (x_extract rfl rfl) rfl ?_
  refine V (x_extract rfl rfl) rfl ?_
  refine V (x_assign (by conv => lhs; whnf)) rfl ?_
  refine V (x_assign (by conv => lhs; whnf)) rfl ?_
  refine WL_nil ?_
  refine W_seq ?_
  refine W_region ?_
  refine V (x_move (by conv => lhs; whnf)) rfl ?_
  refine V (x_move (by conv => lhs; whnf)) rfl ?_
  refine C (x_call1 cf36 (by conv => lhs; whnf)) rfl ?_
  refine (kind_bad er _ (hG1.same hs2)).mono fun v w3 h3 => ?_
  obtain ⟨rfl, rfl⟩ := h3
  refine V (x_assign (by conv => lhs; whnf)) rfl ?_
  refine V (x_assign (by conv => lhs; whnf)) rfl ?_
  refine WL_nil ?_
  refine W_ret ?_
  repeat (with_reducible (first | refine rt ?_ | refine rb ?_))
  exact bodyE_2 rfl rfl rfl ⟨rfl, ((Only.alloc _ w _).trans ho1).trans (hs2.only _)⟩

theorem Read_bad (a : Nat) (x : Fld) (er : Nat → Addr) (w : World) (hC : CBlk w a x) (hG : Glob w er) (hb : goodB x.cm x.ct = false) :
    Ret Tryd.prog 38 #[.pointer (some ⟨a, 0, none⟩)] w fun v w' => v = .tuple #[.slice none 0 0, errV er 4] ∧ Only (· = a) w w' := by
  refine ret_of_W Tryd.func38 rfl (Nat.le_of_ble_eq_true rfl) ?_
  cases hre : x.re
  · have hC1 := hC
    unfold CBlk at hC1
    rw [hre] at hC1
    conv => arg 3; whnf
    refine W_seq ?_
    refine W_region ?_
    refine V (x_assign (by conv => lhs; whnf)) rfl ?_
    refine V (x_assign (by conv => lhs; whnf)) rfl ?_
    refine WL_nil ?_
    refine W_seq ?_
    refine W_seq ?_
    refine W_region ?_
    refine V (x_move (by conv => lhs; whnf)) rfl ?_
    refine V (x_nilc rfl) rfl ?_
    refine V (x_field0 fa71_5 rfl) rfl ?_
    refine V (x_load ld4 rfl ((hC1).cell 5 rfl)) rfl ?_
    refine WL_nil ?_
    refine W_false (rfl) ?_
    refine W_region ?_
    refine V (x_move (by conv => lhs; whnf)) rfl ?_
    refine C (x_call2 cf41 (by conv => lhs; whnf) (by conv => lhs; whnf)) rfl ?_
    refine (readRecord_bad a x _ er _ hC hG hb).mono fun v w1 h1 => ?_
    obtain ⟨rfl, hs⟩ := h1
    refine V (x_move (by conv => lhs; whnf)) rfl ?_
    refine V (x_extract rfl rfl) rfl ?_
    refine V (x_extract rfl rfl) rfl ?_
    refine V (x_assign (by conv => lhs; whnf)) rfl ?_
    refine V (x_assign (by conv => lhs; whnf)) rfl ?_
    refine WL_nil ?_
    refine W_seq ?_
    refine W_region ?_
    refine V (x_move (by conv => lhs; whnf)) rfl ?_
    refine V (x_move (by conv => lhs; whnf)) rfl ?_
    refine V (x_assign (by conv => lhs; whnf)) rfl ?_
    refine V (x_assign (by conv => lhs; whnf)) rfl ?_
    refine WL_nil ?_
    refine W_ret ?_
    repeat (with_reducible (first | refine rt ?_ | refine rb ?_))
    exact bodyE_2 rfl rfl rfl ⟨rfl, hs.only _⟩
  · have hC1 := hC
    unfold CBlk at hC1
    rw [hre] at hC1
    conv => arg 3; whnf
    refine W_seq ?_
    refine W_region ?_
    refine V (x_assign (by conv => lhs; whnf)) rfl ?_
    refine V (x_assign (by conv => lhs; whnf)) rfl ?_
    refine WL_nil ?_
    refine W_seq ?_
    refine W_seq ?_
    refine W_region ?_
    refine V (x_move (by conv => lhs; whnf)) rfl ?_
    refine V (x_nilc rfl) rfl ?_
    refine V (x_field0 fa71_5 rfl) rfl ?_
    refine V (x_load ld4 rfl ((hC1).cell 5 rfl)) rfl ?_
    refine WL_nil ?_
    refine W_true (rfl) ?_
    refine W_seq ?_
    refine W_region ?_
    refine V (x_move (by conv => lhs; whnf)) rfl ?_
    refine V (x_move (by conv => lhs; whnf)) rfl ?_
    refine V (x_nilc rfl) rfl ?_
    refine V (x_field0 fa71_14 rfl) rfl ?_
    refine V (x_load ld30 rfl ((hC1).cell 14 rfl)) rfl ?_
    refine C (x_call2 cf41 (by conv => lhs; whnf) (by conv => lhs; whnf)) rfl ?_
    refine (readRecord_bad a x _ er _ hC hG hb).mono fun v w1 h1 => ?_
    obtain ⟨rfl, hs⟩ := h1
    have hC2 := hC1.same hs
    refine V (x_move (by conv => lhs; whnf)) rfl ?_
    refine V (x_extract rfl rfl) rfl ?_
    refine V (x_extract rfl rfl) rfl ?_
    refine V (x_assign (by conv => lhs; whnf)) rfl ?_
    refine V (x_assign (by conv => lhs; whnf)) rfl ?_
    refine WL_nil ?_
    refine W_region ?_
    refine V (x_move (by conv => lhs; whnf)) rfl ?_
    refine V (x_move (by conv => lhs; whnf)) rfl ?_
    refine V (x_nilc rfl) rfl ?_
    refine V (x_field0 fa71_14 rfl) rfl ?_
    refine S (x_store st30 rfl (by conv => lhs; whnf) rfl ((hC2).cell 14 rfl) ((hC2).free 14)) ?_
    refine WL_nil ?_
    refine W_seq ?_
    refine W_region ?_
    refine V (x_move (by conv => lhs; whnf)) rfl ?_
    refine V (x_move (by conv => lhs; whnf)) rfl ?_
    refine V (x_assign (by conv => lhs; whnf)) rfl ?_
    refine V (x_assign (by conv => lhs; whnf)) rfl ?_
    refine WL_nil ?_
    refine W_ret ?_
    repeat (with_reducible (first | refine rt ?_ | refine rb ?_))
    exact bodyE_2 rfl rfl rfl ⟨rfl, (hs.only _).trans (Only.setCell (· = a) _ rfl _)⟩

/-- What ReadSome hands back then. -/
def SomeBad (w : World) : Value → World → Prop := fun v w' => ∃ vr vk v0 A c, v = .tuple #[vr, vk] ∧ v0 = .slice A 0 c ∧ Own w' 30 1 vr 1 [v0] ∧ Own w' 3 1 vk 1 [.int .i64 4] ∧ Only (fun _ => False) w w'
/-- Its loop: two rounds, the second of which leaves. -/
def SbI (a : Nat) (x : Fld) (er : Nat → Addr) (w0 : World) (k : Nat) (e : Env) (w : World) : Prop :=
  e 2 = .int .i64 1 ∧ e 8 = .pointer (some ⟨a, 0, none⟩) ∧ Only (fun _ => False) w0 w ∧ ((k = 1 ∧ e 9 = .slice none 0 0 ∧ e 10 = .slice none 0 0 ∧ CBlk w a x ∧ Glob w er) ∨
    (k = 0 ∧ ∃ vr vk v0 A c, e 9 = vr ∧ e 10 = vk ∧ v0 = .slice A 0 c ∧ Own w 30 1 vr 1 [v0] ∧ Own w 3 1 vk 1 [.int .i64 4]))
def SbM (w0 : World) (e : Env) (w : World) : Prop :=
  ∃ vr vk v0 A c, e 9 = vr ∧ e 10 = vk ∧ v0 = .slice A 0 c ∧ Own w 30 1 vr 1 [v0] ∧ Own w 3 1 vk 1 [.int .i64 4] ∧ Only (fun _ => False) w0 w
theorem noBlk {k : Nat} : (Value.slice none 0 0).ownBlock = some k → False := fun h => by cases h
theorem ReadSome_loop (a : Nat) (x : Fld) (er : Nat → Addr) (w0 w : World) (hb : goodB x.cm x.ct = false) (ha : w0.heap.size ≤ a) (hG00 : Glob w0 er) (hC : CBlk w a x) (hG : Glob w er) (hO : Only (fun _ => False) w0 w) (e : Env) (e2 : e 2 = .int .i64 1) (e8 : e 8 = .pointer (some ⟨a, 0, none⟩)) (e9 : e 9 = .slice none 0 0) (e10 : e 10 = .slice none 0 0) :
    W Tryd.prog Tryd.f31.ntmps (fstC (sndC (sndC (sndC (sndC (bodyOf Tryd.f31)))))) (thn (SbM w0) fun _ _ _ => False) e w := by
  conv => arg 3; whnf
  refine W_block ?_
  refine W_loop (SbI a x er w0) (k0 := 1) ⟨e2, e8, hO, .inl ⟨rfl, e9, e10, hC, hG⟩⟩ ?_
  clear e2 e8 e9 e10 hC hG hO
  rintro k e w ⟨e2, e8, hO, ⟨rfl, e9, e10, hC, hG⟩ | ⟨rfl, vr, vk, v0, A, c, e9, e10, h0, hr, hk⟩⟩
  · rw [← upd_self e2, ← upd_self (e := upd e 2 _) (d := 8) e8, ← upd_self (e := upd (upd e 2 _) 8 _) (d := 9) e9, ← upd_self (e := upd (upd (upd e 2 _) 8 _) 9 _) (d := 10) e10]
    have hne : er 4 ≠ er 0 := fun hh => by
      have := hG.inj 4 0 (by omega) (by omega) (by simpa using hh)
      omega
    have key : ∀ w1, Only (· = a) w w1 → Glob w1 er := fun w1 ho => hG00.new (hO.then_ ho fun i hi hh => by omega)
    refine W_seq ?_
    refine W_seq ?_
    refine W_region ?_
    refine V (x_move (by conv => lhs; whnf)) rfl ?_
    refine V (x_len_slice Tryd.underlying27 rfl) rfl ?_
    refine V (x_move (by conv => lhs; whnf)) rfl ?_
    refine V (x_bin rfl rfl (bt (decide_eq_true (by omega)))) rfl ?_
    refine WL_nil ?_
    refine W_true (rfl) ?_
    refine W_skip ?_
    refine W_block ?_
    refine W_seq ?_
    refine W_region ?_
    refine V (x_move (by conv => lhs; whnf)) rfl ?_
    refine C (x_call1 cf38 (by conv => lhs; whnf)) rfl ?_
    refine (Read_bad a x er _ hC hG hb).mono fun v w1 h1 => ?_
    obtain ⟨rfl, ho1⟩ := h1
    have hG1 := key w1 ho1
    have hG0 : w1.cell? ⟨0, 0, none⟩ = some (errV er 0) := hG1.cell 0 (by omega)
    obtain ⟨t0, cs0, hb0⟩ := hG1.lt 0 (by omega)
    obtain ⟨t4, cs4, hb4⟩ := hG1.lt 4 (by omega)
    refine V (x_move (by conv => lhs; whnf)) rfl ?_
    refine V (x_extract rfl rfl) rfl ?_
    refine V (x_extract rfl rfl) rfl ?_
    refine V (x_assign (by conv => lhs; whnf)) rfl ?_
    refine V (x_assign (by conv => lhs; whnf)) rfl ?_
    refine WL_nil ?_
    refine W_seq ?_
    refine W_seq ?_
    refine W_region ?_
    refine V (x_move (by conv => lhs; whnf)) rfl ?_
    refine V (x_load ld55 rfl hG0) rfl ?_
    refine V (x_eql_other Tryd.underlying55 ptrE rfl rfl hne hb4 hb0) rfl ?_
    refine WL_nil ?_
    refine W_false (rfl) ?_
    refine W_skip ?_
    refine W_seq ?_
    refine W_region ?_
    refine V (x_move (by conv => lhs; whnf)) rfl ?_
    refine V (x_move (by conv => lhs; whnf)) rfl ?_
    refine VE (x_append (news := []) eT9 rfl (by conv => lhs; whnf) (Own.nil _ _ _) rfl (Cells.nil _ _) (by simp) (by omega) (by unfold maxLen; omega)) rfl ?_
    rintro v0 w2 ⟨hown2, ho2, -⟩
    obtain ⟨A0, c0, hv0, -, -⟩ := hown2.form
    refine V (x_bs1 Tryd.underlying27 sz30 zv30 rfl (by conv => lhs; whnf) hown2.one) rfl ?_
    refine VE (x_append (news := [v0]) eT30 (by conv => lhs; whnf) (by conv => lhs; whnf) (Own.nil _ _ _) rfl (Cells.of_blk (Blk.new w2 30 [v0])) (by intro u hu; rw [List.mem_singleton] at hu; subst hu; exact hown2.one) (by omega) (by unfold maxLen; omega)) rfl ?_
    rintro vr w3 ⟨hown3, ho3, -⟩
    refine V (x_assign (by conv => lhs; whnf)) rfl ?_
    refine WL_nil ?_
    refine W_region ?_
    refine V (x_move (by conv => lhs; whnf)) rfl ?_
    refine V (x_move (by conv => lhs; whnf)) rfl ?_
    refine C (x_call1 cf36 (by conv => lhs; whnf)) rfl ?_
    refine (kind_bad er _ (((hG1.only ho2 fun _ hk => (noBlk hk).elim).new (Only.alloc _ _ _)).only ho3 fun _ hk => (noBlk hk).elim)).mono fun v w4 h4 => ?_
    obtain ⟨rfl, rfl⟩ := h4
    refine V (x_bs1 Tryd.underlying38 sz3 zv3 rfl rfl rfl) rfl ?_
    refine VE (x_append (news := [.int .i64 4]) eT3 (by conv => lhs; whnf) (by conv => lhs; whnf) (Own.nil _ _ _) rfl (Cells.of_blk (Blk.new w3 3 [.int .i64 4])) (by intro u hu; rw [List.mem_singleton] at hu; subst hu; rfl) (by omega) (by unfold maxLen; omega)) rfl ?_
    rintro vk w5 ⟨hown5, ho5, -⟩
    refine V (x_assign (by conv => lhs; whnf)) rfl ?_
    refine WL_nil ?_
    repeat (first | with_reducible refine xt ?_ | with_reducible refine xb ?_ | with_reducible refine nt ?_ | with_reducible refine nb ?_ | with_reducible refine xn rfl ?_)
    have o1 : Only (fun _ => False) w0 w1 := hO.then_ ho1 fun i hi hh => by omega
    have o3 : Only (fun _ => False) w1 w3 := ((ho2.mono fun _ _ hk => noBlk hk).trans (Only.alloc _ _ _)).trans (ho3.mono fun _ _ hk => noBlk hk)
    have o5 : Only (fun _ => False) w3 w5 := (Only.alloc _ w3 _).trans (ho5.mono fun _ _ hk => noBlk hk)
    refine ⟨0, by omega, rfl, rfl, (o1.trans o3).trans o5, .inr ⟨rfl, vr, vk, v0, A0, c0, rfl, rfl, hv0, ?_, hown5⟩⟩
    exact (show Own w3 30 1 vr 1 [v0] from hown3).only o5 fun _ _ => id
  · obtain ⟨Ar, cr, hvr, -, -⟩ := hr.form
    subst hvr
    have h9 := e9
    rw [← upd_self e2, ← upd_self (e := upd e 2 _) (d := 9) e9]
    refine W_seq ?_
    refine W_seq ?_
    refine W_region ?_
    refine V (x_move (by conv => lhs; whnf)) rfl ?_
    refine V (x_len_slice Tryd.underlying27 rfl) rfl ?_
    refine V (x_move (by conv => lhs; whnf)) rfl ?_
    refine V (x_bin rfl rfl (bf (decide_eq_false (by omega)))) rfl ?_
    refine WL_nil ?_
    refine W_false (rfl) ?_
    refine W_exit ?_
    repeat (first | with_reducible refine xt ?_ | with_reducible refine xb ?_ | with_reducible refine nt ?_ | with_reducible refine nb ?_ | with_reducible refine xn rfl ?_)
    exact ⟨_, _, v0, A, c, rfl, e10, h0, hr, hk, hO⟩
theorem ReadSome_bad (str : ByteArray) (o : Opt) (er : Nat → Addr) (w : World) (hG : Glob w er) (hb : o.good = false) :
    Ret Tryd.prog 31 #[.string str, .agg o.cells.toArray, .int .i64 1] w (SomeBad w) := by
  refine ret_of_W Tryd.func31 rfl (Nat.le_of_ble_eq_true rfl) ?_
  have hO := Blk.new w 23 o.cells
  conv => arg 3; whnf
  refine W_seq ?_
  refine W_region ?_
  refine V (x_box (cs := o.cells) rfl) rfl ?_
  refine V (x_assign (by conv => lhs; whnf)) rfl ?_
  refine V (x_assign (by conv => lhs; whnf)) rfl ?_
  refine WL_nil ?_
  refine W_seq ?_
  refine W_region ?_
  refine V (x_move (by conv => lhs; whnf)) rfl ?_
  refine V (x_loadA Tryd.underlying23 (cs := o.cells) szO rfl hO) rfl ?_
  refine C (x_call2 cf34 (by conv => lhs; whnf) (by conv => lhs; whnf)) rfl ?_
  refine (reader_ok str o _).mono fun v w1 h1 => ?_
  obtain ⟨a, b, g, s, rfl, hC, hB, hGg, hS, ho1, la, lb, lg, ls⟩ := h1
  have hG1 := (hG.new (Only.alloc _ w _)).new ho1
  refine V (x_assign (by conv => lhs; whnf)) rfl ?_
  refine WL_nil ?_
  refine W_seq ?_
  refine W_region ?_
  refine V (x_assign (by conv => lhs; whnf)) rfl ?_
  refine WL_nil ?_
  refine W_seq ?_
  refine W_region ?_
  refine V (x_assign (by conv => lhs; whnf)) rfl ?_
  refine WL_nil ?_
  refine W_cut (SbM w) ?_ ?_
  · exact ReadSome_loop a _ er w w1 (Opt.bad hb) (by simp at la; omega) hG hC hG1 ((Only.alloc _ w _).trans ho1) _ rfl rfl rfl rfl
  · rintro e w2 ⟨vr, vk, v0, A, c, e9, e10, h0, hr, hk, hOw⟩
    rw [← upd_self e9, ← upd_self (e := upd e 9 _) (d := 10) e10]
    refine W_seq ?_
    refine W_region ?_
    refine V (x_move (by conv => lhs; whnf)) rfl ?_
    refine V (x_move (by conv => lhs; whnf)) rfl ?_
    refine V (x_assign (by conv => lhs; whnf)) rfl ?_
    refine V (x_assign (by conv => lhs; whnf)) rfl ?_
    refine WL_nil ?_
    refine W_ret ?_
    repeat (with_reducible (first | refine rt ?_ | refine rb ?_))
    exact bodyE_2 rfl rfl rfl ⟨vr, vk, v0, A, c, rfl, h0, hr, hk, hOw⟩

/-- The law's walk. -/
theorem wrongOptions (str : ByteArray) (o : Opt) (er : Nat → Addr) (w : World) (hG : Glob w er) :
    Ret Tryd.prog 15 #[.string str, .agg o.cells.toArray] w fun v w' => v = .bool true ∧ Only (fun _ => False) w w' := by
  refine ret_of_W Tryd.func15 rfl (Nat.le_of_ble_eq_true rfl) ?_
  have hO := Blk.new w 23 o.cells
  have hO1 : Only (fun _ => False) w (w.alloc (.cells o.cells.toArray 23)) := Only.alloc _ _ _
  cases hb : o.good
  · have hg := good_ok o (w.alloc (.cells o.cells.toArray 23))
    rw [hb] at hg
    conv => arg 3; whnf
    refine W_seq ?_
    refine W_region ?_
    refine V (x_box (cs := o.cells) rfl) rfl ?_
    refine V (x_assign (by conv => lhs; whnf)) rfl ?_
    refine WL_nil ?_
    refine W_seq ?_
    refine W_seq ?_
    refine W_region ?_
    refine V (x_loadA Tryd.underlying23 (cs := o.cells) szO rfl hO) rfl ?_
    refine C (x_call1 cf16 (by conv => lhs; whnf)) rfl ?_
    refine hg.mono fun v w1 h1 => ?_
    obtain ⟨rfl, ho1⟩ := h1
    have hG1 := (hG.new hO1).new ho1
    have hB1 := hO.only ho1 id
    refine WL_nil ?_
    refine W_false (rfl) ?_
    refine W_skip ?_
    refine W_seq ?_
    refine W_region ?_
    refine V (x_move (by conv => lhs; whnf)) rfl ?_
    refine V (x_loadA Tryd.underlying23 (cs := o.cells) szO rfl hB1) rfl ?_
    refine C (x_call2 cf19 (by conv => lhs; whnf) (by conv => lhs; whnf)) rfl ?_
    refine (implReadAll_bad str o er _ hG1 hb).mono fun v w2 h2 => ?_
    obtain ⟨rfl, ho2⟩ := h2
    have hB2 := hB1.only ho2 id
    refine V (x_move (by conv => lhs; whnf)) rfl ?_
    refine V (x_extract rfl rfl) rfl ?_
    refine V (x_extract rfl rfl) rfl ?_
    refine V (x_assign (by conv => lhs; whnf)) rfl ?_
    refine V (x_assign (by conv => lhs; whnf)) rfl ?_
    refine WL_nil ?_
    refine W_seq ?_
    refine W_region ?_
    refine V (x_move (by conv => lhs; whnf)) rfl ?_
    refine V (x_loadA Tryd.underlying23 (cs := o.cells) szO rfl hB2) rfl ?_
    refine C (x_call3 cf31 (by conv => lhs; whnf) (by conv => lhs; whnf) (by conv => lhs; whnf)) rfl ?_
    refine (ReadSome_bad str o er _ (hG1.new ho2) hb).mono fun v w3 h3 => ?_
    obtain ⟨vr, vk, v0, A, c, rfl, rfl, hr, hk, ho3⟩ := h3
    obtain ⟨Ar, cr, rfl, -, -⟩ := hr.form
    obtain ⟨Ak, ck, rfl, -, -⟩ := hk.form
    obtain ⟨gr, rfl, -, hcr⟩ := hr.cell rfl (by simp)
    obtain ⟨gk, rfl, -, hck⟩ := hk.cell rfl (by simp)
    refine V (x_move (by conv => lhs; whnf)) rfl ?_
    refine V (x_extract rfl rfl) rfl ?_
    refine V (x_extract rfl rfl) rfl ?_
    refine V (x_assign (by conv => lhs; whnf)) rfl ?_
    refine V (x_assign (by conv => lhs; whnf)) rfl ?_
    refine WL_nil ?_
    refine W_seq ?_
    refine W_region ?_
    refine V (x_move (by conv => lhs; whnf)) rfl ?_
    refine V (x_bin rfl rfl (bt (beq_iff_eq.2 (by omega)))) rfl ?_
    refine V (x_move (by conv => lhs; whnf)) rfl ?_
    refine VG rfl (x_move (by conv => lhs; whnf)) rfl ?_
    refine VG rfl (x_len_slice Tryd.underlying27 rfl) rfl ?_
    refine VG rfl (x_bin rfl rfl (bt rfl)) rfl ?_
    refine V (x_pick_t rfl (by conv => lhs; whnf)) rfl ?_
    refine V (x_move (by conv => lhs; whnf)) rfl ?_
    refine VG rfl (x_move (by conv => lhs; whnf)) rfl ?_
    refine VG rfl (x_len_slice Tryd.underlying27 rfl) rfl ?_
    refine VG rfl (x_bin rfl rfl (bt rfl)) rfl ?_
    refine V (x_pick_t rfl (by conv => lhs; whnf)) rfl ?_
    refine V (x_move (by conv => lhs; whnf)) rfl ?_
    refine VG rfl (x_move (by conv => lhs; whnf)) rfl ?_
    refine VG rfl (x_index (i := 0) Tryd.underlying27 sz30 rfl rfl rfl (by omega)) rfl ?_
    refine VG rfl (x_load ld30 rfl (hcr 0 _ rfl)) rfl ?_
    refine VG rfl (x_len_slice Tryd.underlying30 rfl) rfl ?_
    refine VG rfl (x_bin rfl rfl (bt rfl)) rfl ?_
    refine V (x_pick_t rfl (by conv => lhs; whnf)) rfl ?_
    refine V (x_move (by conv => lhs; whnf)) rfl ?_
    refine VG rfl (x_move (by conv => lhs; whnf)) rfl ?_
    refine VG rfl (x_len_slice Tryd.underlying38 rfl) rfl ?_
    refine VG rfl (x_bin rfl rfl (bt rfl)) rfl ?_
    refine V (x_pick_t rfl (by conv => lhs; whnf)) rfl ?_
    refine V (x_move (by conv => lhs; whnf)) rfl ?_
    refine VG rfl (x_move (by conv => lhs; whnf)) rfl ?_
    refine VG rfl (x_index (i := 0) Tryd.underlying38 sz3 rfl rfl rfl (by omega)) rfl ?_
    refine VG rfl (x_load ld3 rfl (hck 0 _ rfl)) rfl ?_
    refine VG rfl (x_bin rfl rfl (bt rfl)) rfl ?_
    refine V (x_pick_t rfl (by conv => lhs; whnf)) rfl ?_
    refine V (x_assign (by conv => lhs; whnf)) rfl ?_
    refine WL_nil ?_
    refine W_ret ?_
    repeat (with_reducible (first | refine rt ?_ | refine rb ?_))
    exact bodyE_1 rfl rfl ⟨rfl, ((hO1.trans ho1).trans ho2).trans ho3⟩
  · have hg := good_ok o (w.alloc (.cells o.cells.toArray 23))
    rw [hb] at hg
    conv => arg 3; whnf
    refine W_seq ?_
    refine W_region ?_
    refine V (x_box (cs := o.cells) rfl) rfl ?_
    refine V (x_assign (by conv => lhs; whnf)) rfl ?_
    refine WL_nil ?_
    refine W_seq ?_
    refine W_seq ?_
    refine W_region ?_
    refine V (x_loadA Tryd.underlying23 (cs := o.cells) szO rfl hO) rfl ?_
    refine C (x_call1 cf16 (by conv => lhs; whnf)) rfl ?_
    refine hg.mono fun v w1 h1 => ?_
    obtain ⟨rfl, ho1⟩ := h1
    refine WL_nil ?_
    refine W_true (rfl) ?_
    refine W_seq ?_
    refine W_region ?_
    refine V (x_assign (by conv => lhs; whnf)) rfl ?_
    refine WL_nil ?_
    refine W_ret ?_
    repeat (with_reducible (first | refine rt ?_ | refine rb ?_))
    exact bodyE_1 rfl rfl ⟨rfl, hO1.trans ho1⟩
end Go.Proofs.YtcdhbfhijkdfoaaDoor
