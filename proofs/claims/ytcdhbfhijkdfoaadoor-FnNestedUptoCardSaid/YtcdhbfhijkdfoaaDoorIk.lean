/-
  errors.Is, impl.kind, impl.reader; and what comes of options that are refused: ReadAll, Read, ReadSome.
-/
import Derived.Test.YtcdhbfhijkdfoaaDoorIs
namespace Go.Proofs.YtcdhbfhijkdfoaaDoor
open Go.EC Go.RowKit

theorem x_invoke0v {P : Program} {e : Env} {w : World} {d : Option Nat} {ty : TypeId} {pos : String} {af : Array Edge} {g : Option (Nat × Bool)} {x : Operand} {rv v : Value} {name : String} {ts : Array TypeId} (hx : ev e x = rv) (hm : ∀ w, (callMethod rv name #[]).run P w = .ok (.value v) w) :
    (execOp (ev e) ⟨d, .call { callee := .invoke x name, args := #[], argTypes := ts }, ty, pos, af, g⟩).run P w = .ok (.value v) w := by
  subst hx
  simp [execOp, resolve, invoke, hm]
theorem Is_low (er : Nat → Addr) (k : Nat) (hk : k = 1 ∨ k = 2 ∨ k = 3) (w : World) (hG : Glob w er) : Ret Tryd.prog 42 #[errV er 4, errV er k] w fun v w' => v = .bool false ∧ w = w' := by
  refine ret_of_W Tryd.func42 rfl (Nat.le_of_ble_eq_true rfl) ?_
  conv => arg 3; whnf
  refine W_seq ?_
  refine W_region ?_
  refine V (x_assign (by conv => lhs; whnf)) rfl ?_
  refine WL_nil ?_
  refine W_seq ?_
  refine W_seq ?_
  refine W_region ?_
  refine V (x_move (by conv => lhs; whnf)) rfl ?_
  refine V (x_eql_held Tryd.underlying55 rfl) rfl ?_
  refine V (x_move (by conv => lhs; whnf)) rfl ?_
  refine VG rfl (x_move (by conv => lhs; whnf)) rfl ?_
  refine VG rfl (x_eql_held Tryd.underlying55 rfl) rfl ?_
  refine V (x_pick_f rfl (by conv => lhs; whnf)) rfl ?_
  refine WL_nil ?_
  refine W_false (rfl) ?_
  refine W_skip ?_
  refine W_seq ?_
  refine W_region ?_
  refine V (x_move (by conv => lhs; whnf)) rfl ?_
  refine V (x_ext1 (by conv => lhs; whnf) (typeOf_run _ _)) rfl ?_
  refine V (x_invoke0v rfl comp_run) rfl ?_
  refine V (x_assign (by conv => lhs; whnf)) rfl ?_
  refine WL_nil ?_
  refine W_seq ?_
  refine W_region ?_
  refine V (x_move (by conv => lhs; whnf)) rfl ?_
  refine V (x_move (by conv => lhs; whnf)) rfl ?_
  refine V (x_move (by conv => lhs; whnf)) rfl ?_
  refine C (x_call3 cf55 (by conv => lhs; whnf) (by conv => lhs; whnf) (by conv => lhs; whnf)) rfl ?_
  refine (isLow er k hk _ hG).mono fun v w1 h1 => ?_
  obtain ⟨rfl, rfl⟩ := h1
  refine V (x_assign (by conv => lhs; whnf)) rfl ?_
  refine WL_nil ?_
  refine W_ret ?_
  repeat (with_reducible (first | refine rt ?_ | refine rb ?_))
  exact bodyE_1 rfl rfl ⟨rfl, rfl⟩
theorem kind_nil (w : World) : Ret Tryd.prog 36 #[.nilIface] w fun v w' => v = .int .i64 0 ∧ w = w' := by
  refine ret_of_W Tryd.func36 rfl (Nat.le_of_ble_eq_true rfl) ?_
  conv => arg 3; whnf
  refine W_seq ?_
  refine W_region ?_
  refine V (x_assign (by conv => lhs; whnf)) rfl ?_
  refine WL_nil ?_
  refine W_seq ?_
  refine W_block ?_
  refine W_seq ?_
  refine W_region ?_
  refine V (x_move (by conv => lhs; whnf)) rfl ?_
  refine V (x_eql_nil_nil Tryd.underlying55 rfl) rfl ?_
  refine V (x_assign (by conv => lhs; whnf)) rfl ?_
  refine WL_nil ?_
  refine W_true (rfl) ?_
  refine W_seq ?_
  refine W_region ?_
  refine V (x_assign (by conv => lhs; whnf)) rfl ?_
  refine WL_nil ?_
  refine W_ret ?_
  repeat (with_reducible (first | refine rt ?_ | refine rb ?_))
  exact bodyE_1 rfl rfl ⟨rfl, rfl⟩
theorem kind_bad (er : Nat → Addr) (w : World) (hG : Glob w er) : Ret Tryd.prog 36 #[errV er 4] w fun v w' => v = .int .i64 4 ∧ w = w' := by
  refine ret_of_W Tryd.func36 rfl (Nat.le_of_ble_eq_true rfl) ?_
  have h1 : w.cell? ⟨1, 0, none⟩ = some (errV er 1) := hG.cell 1 (by omega)
  have h2 : w.cell? ⟨2, 0, none⟩ = some (errV er 2) := hG.cell 2 (by omega)
  have h3 : w.cell? ⟨3, 0, none⟩ = some (errV er 3) := hG.cell 3 (by omega)
  conv => arg 3; whnf
  refine W_seq ?_
  refine W_region ?_
  refine V (x_assign (by conv => lhs; whnf)) rfl ?_
  refine WL_nil ?_
  refine W_seq ?_
  refine W_block ?_
  refine W_seq ?_
  refine W_region ?_
  refine V (x_move (by conv => lhs; whnf)) rfl ?_
  refine V (x_eql_held Tryd.underlying55 rfl) rfl ?_
  refine V (x_assign (by conv => lhs; whnf)) rfl ?_
  refine WL_nil ?_
  refine W_false (rfl) ?_
  refine W_seq ?_
  refine W_region ?_
  refine V (x_move (by conv => lhs; whnf)) rfl ?_
  refine V (x_load ld55 rfl h1) rfl ?_
  refine C (x_call2 cf42 (by conv => lhs; whnf) (by conv => lhs; whnf)) rfl ?_
  refine (Is_low er 1 (by omega) _ hG).mono fun v w1 h1 => ?_
  obtain ⟨rfl, rfl⟩ := h1
  refine V (x_assign (by conv => lhs; whnf)) rfl ?_
  refine WL_nil ?_
  refine W_false (rfl) ?_
  refine W_seq ?_
  refine W_region ?_
  refine V (x_move (by conv => lhs; whnf)) rfl ?_
  refine V (x_load ld55 rfl h2) rfl ?_
  refine C (x_call2 cf42 (by conv => lhs; whnf) (by conv => lhs; whnf)) rfl ?_
  refine (Is_low er 2 (by omega) _ hG).mono fun v w1 h1 => ?_
  obtain ⟨rfl, rfl⟩ := h1
  refine V (x_assign (by conv => lhs; whnf)) rfl ?_
  refine WL_nil ?_
  refine W_false (rfl) ?_
  refine W_seq ?_
  refine W_region ?_
  refine V (x_move (by conv => lhs; whnf)) rfl ?_
  refine V (x_load ld55 rfl h3) rfl ?_
  refine C (x_call2 cf42 (by conv => lhs; whnf) (by conv => lhs; whnf)) rfl ?_
  refine (Is_low er 3 (by omega) _ hG).mono fun v w1 h1 => ?_
  obtain ⟨rfl, rfl⟩ := h1
  refine V (x_assign (by conv => lhs; whnf)) rfl ?_
  refine WL_nil ?_
  refine W_false (rfl) ?_
  refine W_skip ?_
  refine W_seq ?_
  refine W_region ?_
  refine V (x_assign (by conv => lhs; whnf)) rfl ?_
  refine WL_nil ?_
  refine W_ret ?_
  repeat (with_reducible (first | refine rt ?_ | refine rb ?_))
  exact bodyE_1 rfl rfl ⟨rfl, rfl⟩
theorem Glob.same {w w' : World} {er : Nat → Addr} (h : Glob w er) (hs : Same w w') : Glob w' er :=
  ⟨fun k hk => (hs.cell _).trans (h.cell k hk), fun k hk => by obtain ⟨t, cs, hb⟩ := h.lt k hk; exact ⟨t, cs, hb.same hs⟩, h.inj⟩
theorem ReadAll_bad (a : Nat) (x : Fld) (er : Nat → Addr) (w : World) (hC : CBlk w a x) (hG : Glob w er) (hb : goodB x.cm x.ct = false) :
    Ret Tryd.prog 35 #[.pointer (some ⟨a, 0, none⟩)] w fun v w' => v = .tuple #[.slice none 0 0, errV er 4] ∧ Same w w' := by
  refine ret_of_W Tryd.func35 rfl (Nat.le_of_ble_eq_true rfl) ?_
  conv => arg 3; whnf
  have hne : er 4 ≠ er 0 := fun hh => by
    have := hG.inj 4 0 (by omega) (by omega) (by simpa using hh)
    omega
  refine W_seq ?_
  refine W_region ?_
  refine V (x_assign (by conv => lhs; whnf)) rfl ?_
  refine V (x_assign (by conv => lhs; whnf)) rfl ?_
  refine WL_nil ?_
  refine W_block ?_
  refine W_once ?_
  refine W_block ?_
  refine W_seq ?_
  refine W_region ?_
  refine V (x_move (by conv => lhs; whnf)) rfl ?_
  refine C (x_call2 cf41 (by conv => lhs; whnf) (by conv => lhs; whnf)) rfl ?_
  refine (readRecord_bad a x (.slice none 0 0) er _ hC hG hb).mono fun v w1 h1 => ?_
  obtain ⟨rfl, hs⟩ := h1
  have hG1 := hG.same hs
  have hG0 : w1.cell? ⟨0, 0, none⟩ = some (errV er 0) := hG1.cell 0 (by omega)
  obtain ⟨t0, cs0, hb0⟩ := hG1.lt 0 (by omega)
  obtain ⟨t4, cs4, hb4⟩ := hG1.lt 4 (by omega)
  refine V (x_move (by conv => lhs; whnf)) rfl ?_
  refine V (x_extract rfl rfl) rfl ?_
  refine V (x_extract rfl rfl) rfl ?_
  refine V (x_assign (by conv => lhs; whnf)) rfl ?_
  refine V (x_assign (by conv => lhs; whnf)) rfl ?_
  refine WL_nil ?_
  refine W_seq ?_
  refine W_seq ?_
  refine W_region ?_
  refine V (x_move (by conv => lhs; whnf)) rfl ?_
  refine V (x_load ld55 rfl hG0) rfl ?_
  refine V (x_eql_other Tryd.underlying55 ptrE rfl rfl hne hb4 hb0) rfl ?_
  refine WL_nil ?_
  refine W_false (rfl) ?_
  refine W_skip ?_
  refine W_seq ?_
  refine W_seq ?_
  refine W_region ?_
  refine V (x_move (by conv => lhs; whnf)) rfl ?_
  refine V (x_neq_held Tryd.underlying55 rfl) rfl ?_
  refine WL_nil ?_
  refine W_true (rfl) ?_
  refine W_seq ?_
  refine W_region ?_
  refine V (x_move (by conv => lhs; whnf)) rfl ?_
  refine V (x_assign (by conv => lhs; whnf)) rfl ?_
  refine V (x_assign (by conv => lhs; whnf)) rfl ?_
  refine WL_nil ?_
  refine W_ret ?_
  repeat (with_reducible (first | refine rt ?_ | refine rb ?_))
  exact bodyE_2 rfl rfl rfl ⟨rfl, hs⟩

/-- The options, as a struct's cells. -/
structure Opt where
  cm : Int
  ct : Int
  ex : Int
  lz : Bool
  tr : Bool
  re : Bool
def Opt.cells (o : Opt) : List Value := [.int .i32 o.cm, .int .i32 o.ct, .int .i64 o.ex, .bool o.lz, .bool o.tr, .bool o.re]
/-- The delimiter of options. -/
def Opt.comma (o : Opt) : Int := if o.cm = 0 then 44 else o.cm
theorem szO (w : World) : (sizeOf 23).run Tryd.prog w = .ok 6 w := by kernel_rfl
theorem Opt.one (o : Opt) : ∀ v ∈ o.cells, v.oneCell' = true := by unfold Opt.cells; simp [Value.oneCell']

/-- What reader hands back. -/
def RdrPost (str : ByteArray) (o : Opt) (w : World) : Value → World → Prop := fun v w' =>
  ∃ a b g s, v = .pointer (some ⟨a, 0, none⟩) ∧ CBlk w' a { cm := o.comma, ct := o.ct, fpr := o.ex, lz := o.lz, tr := o.tr, re := o.re, tc := false, b := b, nl := 0, off := 0, raw := .slice none 0 0, rec_ := .slice none 0 0, idx := .slice none 0 0, psn := .slice none 0 0, last := .slice none 0 0 } ∧
    BBlk w' b g s 0 0 .nilIface (-1) (-1) ∧ Blk w' g 5 (List.replicate 4096 (.int .u8 0)) ∧ SBlk w' s str 0 (-1) ∧ Only (fun _ => False) w w' ∧ w.heap.size ≤ a ∧ w.heap.size ≤ b ∧ w.heap.size ≤ g ∧ w.heap.size ≤ s
theorem reader_tail (o : Opt) (a b : Nat) (z : Int) (w : World) (p : Nat) (hO : Blk w p 23 o.cells) (hC : Blk w a 71 [.int .i32 z, .int .i32 0, .int .i64 0, .bool false, .bool false, .bool false, .bool false, .pointer (some ⟨b, 0, none⟩), .int .i64 0, .int .i64 0, .slice none 0 0, .slice none 0 0, .slice none 0 0, .slice none 0 0, .slice none 0 0]) (e : Env) (e3 : e 3 = .pointer (some ⟨p, 0, none⟩)) (e5 : e 5 = .pointer (some ⟨a, 0, none⟩)) :
    W Tryd.prog Tryd.f34.ntmps (sndC (sndC (sndC (bodyOf Tryd.f34)))) (bodyE Tryd.prog Tryd.f34 fun v w' => v = .pointer (some ⟨a, 0, none⟩) ∧ CBlk w' a { cm := z, ct := o.ct, fpr := o.ex, lz := o.lz, tr := o.tr, re := o.re, tc := false, b := b, nl := 0, off := 0, raw := .slice none 0 0, rec_ := .slice none 0 0, idx := .slice none 0 0, psn := .slice none 0 0, last := .slice none 0 0 } ∧ Only (· = a) w w') e w := by
  rw [← upd_self e3, ← upd_self (e := upd e 3 _) (d := 5) e5]
  have hne : p ≠ a := hO.ne hC (by decide)
  conv => arg 3; whnf
  refine W_seq ?_
  refine W_region ?_
  refine V (x_move (by conv => lhs; whnf)) rfl ?_
  refine V (x_field0 fa23_1 rfl) rfl ?_
  refine V (x_load ld21 rfl ((hO).cell 1 rfl)) rfl ?_
  refine V (x_nilc rfl) rfl ?_
  refine V (x_field0 fa71_1 rfl) rfl ?_
  refine S (x_store st21 rfl (by conv => lhs; whnf) rfl ((hC).cell 1 rfl) ((hC).free 1)) ?_
  refine WL_nil ?_
  replace hO := hO.far (p := ⟨a, 1, none⟩) hne (.int .i32 o.ct)
  replace hC := hC.set 1 (.int .i32 o.ct)
  refine W_seq ?_
  refine W_region ?_
  refine V (x_move (by conv => lhs; whnf)) rfl ?_
  refine V (x_field0 fa23_2 rfl) rfl ?_
  refine V (x_load ld3 rfl ((hO).cell 2 rfl)) rfl ?_
  refine V (x_nilc rfl) rfl ?_
  refine V (x_field0 fa71_2 rfl) rfl ?_
  refine S (x_store st3 rfl (by conv => lhs; whnf) rfl ((hC).cell 2 rfl) ((hC).free 2)) ?_
  refine WL_nil ?_
  replace hO := hO.far (p := ⟨a, 2, none⟩) hne (.int .i64 o.ex)
  replace hC := hC.set 2 (.int .i64 o.ex)
  refine W_seq ?_
  refine W_region ?_
  refine V (x_move (by conv => lhs; whnf)) rfl ?_
  refine V (x_field0 fa23_3 rfl) rfl ?_
  refine V (x_load ld4 rfl ((hO).cell 3 rfl)) rfl ?_
  refine V (x_nilc rfl) rfl ?_
  refine V (x_field0 fa71_3 rfl) rfl ?_
  refine S (x_store st4 rfl (by conv => lhs; whnf) rfl ((hC).cell 3 rfl) ((hC).free 3)) ?_
  refine WL_nil ?_
  replace hO := hO.far (p := ⟨a, 3, none⟩) hne (.bool o.lz)
  replace hC := hC.set 3 (.bool o.lz)
  refine W_seq ?_
  refine W_region ?_
  refine V (x_move (by conv => lhs; whnf)) rfl ?_
  refine V (x_field0 fa23_4 rfl) rfl ?_
  refine V (x_load ld4 rfl ((hO).cell 4 rfl)) rfl ?_
  refine V (x_nilc rfl) rfl ?_
  refine V (x_field0 fa71_4 rfl) rfl ?_
  refine S (x_store st4 rfl (by conv => lhs; whnf) rfl ((hC).cell 4 rfl) ((hC).free 4)) ?_
  refine WL_nil ?_
  replace hO := hO.far (p := ⟨a, 4, none⟩) hne (.bool o.tr)
  replace hC := hC.set 4 (.bool o.tr)
  refine W_seq ?_
  refine W_region ?_
  refine V (x_move (by conv => lhs; whnf)) rfl ?_
  refine V (x_field0 fa23_5 rfl) rfl ?_
  refine V (x_load ld4 rfl ((hO).cell 5 rfl)) rfl ?_
  refine V (x_nilc rfl) rfl ?_
  refine V (x_field0 fa71_5 rfl) rfl ?_
  refine S (x_store st4 rfl (by conv => lhs; whnf) rfl ((hC).cell 5 rfl) ((hC).free 5)) ?_
  refine WL_nil ?_
  replace hC := hC.set 5 (.bool o.re)
  refine W_seq ?_
  refine W_region ?_
  refine V (x_move (by conv => lhs; whnf)) rfl ?_
  refine V (x_assign (by conv => lhs; whnf)) rfl ?_
  refine WL_nil ?_
  refine W_ret ?_
  repeat (with_reducible (first | refine rt ?_ | refine rb ?_))
  refine bodyE_1 rfl rfl ⟨rfl, hC, ?_⟩
  refine ((((Only.setCell _ _ ?_ _).trans (Only.setCell _ _ ?_ _)).trans (Only.setCell _ _ ?_ _)).trans (Only.setCell _ _ ?_ _)).trans (Only.setCell _ _ ?_ _) <;> rfl
theorem reader_ok (str : ByteArray) (o : Opt) (w : World) : Ret Tryd.prog 34 #[.string str, .agg o.cells.toArray] w (RdrPost str o w) := by
  refine ret_of_W Tryd.func34 rfl (Nat.le_of_ble_eq_true rfl) ?_
  conv => arg 3; whnf
  have hs1 : (w.alloc (.cells o.cells.toArray 23)).heap.size = w.heap.size + 1 := by simp
  have hO0 : Blk (w.alloc (.cells o.cells.toArray 23)) w.heap.size 23 o.cells := Blk.new w _ _
  have fin : ∀ (a b g s : Nat) (w1 w2 : World) (v : Value) (cs : List Value), Blk w1 a 71 cs → (v = .pointer (some ⟨a, 0, none⟩) ∧ CBlk w2 a { cm := o.comma, ct := o.ct, fpr := o.ex, lz := o.lz, tr := o.tr, re := o.re, tc := false, b := b, nl := 0, off := 0, raw := .slice none 0 0, rec_ := .slice none 0 0, idx := .slice none 0 0, psn := .slice none 0 0, last := .slice none 0 0 } ∧ Only (· = a) w1 w2) →
      BBlk w1 b g s 0 0 .nilIface (-1) (-1) → Blk w1 g 5 (List.replicate 4096 (.int .u8 0)) → SBlk w1 s str 0 (-1) → Only (fun _ => False) w w1 → w.heap.size ≤ a → w.heap.size ≤ b → w.heap.size ≤ g → w.heap.size ≤ s → RdrPost str o w v w2 := by
    rintro a b g s w1 w2 v cs hC1 ⟨rfl, hC, ho⟩ hB hGg hS ho1 la lb lg ls
    exact ⟨a, b, g, s, rfl, hC, hB.only ho (hB.ne hC1 (by decide)), hGg.only ho (hGg.ne hC1 (by decide)), hS.only ho (hS.ne hC1 (by decide)), ho1.then_ ho fun i hi hh => by omega, la, lb, lg, ls⟩
  have hnew : ∀ (a b g s : Nat) (w1 : World), Blk w1 b 121 (newBuf g s) → BBlk w1 b g s 0 0 .nilIface (-1) (-1) := fun a b g s w1 h => h
  by_cases hz : o.cm = 0
  · skip
    refine W_seq ?_
    refine W_region ?_
    refine V (x_box (cs := o.cells) rfl) rfl ?_
    refine V (x_assign (by conv => lhs; whnf)) rfl ?_
    refine WL_nil ?_
    refine W_seq ?_
    refine W_region ?_
    refine V (x_move (by conv => lhs; whnf)) rfl ?_
    refine C (x_call1 cf40 (by conv => lhs; whnf)) rfl ?_
    refine (strNew str _).mono fun v w1 h1 => ?_
    obtain ⟨rfl, rfl⟩ := h1
    refine V (x_mkiface mkSR (by conv => lhs; whnf)) rfl ?_
    refine C (x_call1 cf39 (by conv => lhs; whnf)) rfl ?_
    refine (csvNew _ _).mono fun v w1 h1 => ?_
    obtain ⟨c, rfl, hlt, hC, hB, hGg, ho⟩ := h1
    have hO1 := (hO0.alloc _).only ho id
    have hS1 := (Blk.new _ _ _).only ho id
    refine V (x_assign (by conv => lhs; whnf)) rfl ?_
    refine WL_nil ?_
    refine W_seq ?_
    refine W_seq ?_
    refine W_region ?_
    refine V (x_field0 fa23_0 rfl) rfl ?_
    refine V (x_load ld21 rfl ((hO1).cell 0 rfl)) rfl ?_
    refine V (x_bin rfl rfl (bf (bne_eq_false_iff_eq.2 (by omega)))) rfl ?_
    refine WL_nil ?_
    refine W_false (rfl) ?_
    refine W_skip ?_
    refine W.mono (reader_tail o c _ 44 w1 w.heap.size hO1 hC _ ?e3 ?e5) fun x e w2 hx => bodyE_mono (fun v w3 h3 => ?_) x e w2 hx
    case e3 => rfl
    case e5 => rfl
    have hz2 : o.comma = 44 := by unfold Opt.comma; rw [if_pos hz]
    rw [← hz2] at h3
    refine fin c _ _ _ w1 w3 v _ hC h3 hB hGg hS1 (((Only.alloc _ w _).trans (Only.alloc _ _ _)).trans ho) ?_ ?_ ?_ ?_ <;> simp at hlt ⊢ <;> omega
  · skip
    refine W_seq ?_
    refine W_region ?_
    refine V (x_box (cs := o.cells) rfl) rfl ?_
    refine V (x_assign (by conv => lhs; whnf)) rfl ?_
    refine WL_nil ?_
    refine W_seq ?_
    refine W_region ?_
    refine V (x_move (by conv => lhs; whnf)) rfl ?_
    refine C (x_call1 cf40 (by conv => lhs; whnf)) rfl ?_
    refine (strNew str _).mono fun v w1 h1 => ?_
    obtain ⟨rfl, rfl⟩ := h1
    refine V (x_mkiface mkSR (by conv => lhs; whnf)) rfl ?_
    refine C (x_call1 cf39 (by conv => lhs; whnf)) rfl ?_
    refine (csvNew _ _).mono fun v w1 h1 => ?_
    obtain ⟨c, rfl, hlt, hC, hB, hGg, ho⟩ := h1
    have hO1 := (hO0.alloc _).only ho id
    have hS1 := (Blk.new _ _ _).only ho id
    refine V (x_assign (by conv => lhs; whnf)) rfl ?_
    refine WL_nil ?_
    refine W_seq ?_
    refine W_seq ?_
    refine W_region ?_
    refine V (x_field0 fa23_0 rfl) rfl ?_
    refine V (x_load ld21 rfl ((hO1).cell 0 rfl)) rfl ?_
    refine V (x_bin rfl rfl (bt (bne_iff_ne.2 (by omega)))) rfl ?_
    refine WL_nil ?_
    refine W_true (rfl) ?_
    refine W_region ?_
    refine V (x_move (by conv => lhs; whnf)) rfl ?_
    refine V (x_field0 fa23_0 rfl) rfl ?_
    refine V (x_load ld21 rfl ((hO1).cell 0 rfl)) rfl ?_
    refine V (x_nilc rfl) rfl ?_
    refine V (x_field0 fa71_0 rfl) rfl ?_
    refine S (x_store st21 rfl (by conv => lhs; whnf) rfl ((hC).cell 0 rfl) ((hC).free 0)) ?_
    refine WL_nil ?_
    have hne : w.heap.size ≠ c := hO1.ne hC (by decide)
    refine W.mono (reader_tail o c _ o.cm _ w.heap.size (hO1.far (p := ⟨c, 0, none⟩) hne _) (hC.set 0 (.int .i32 o.cm)) _ ?e3 ?e5) fun x e w2 hx => bodyE_mono (fun v w3 h3 => ?_) x e w2 hx
    case e3 => rfl
    case e5 => rfl
    have hz2 : o.comma = o.cm := by unfold Opt.comma; rw [if_neg hz]
    rw [← hz2] at h3
    have h4 := h3.2.2
    refine fin c _ _ _ w1 w3 v _ hC ⟨h3.1, h3.2.1, (Only.setCell (· = c) w1 rfl _).trans h4⟩ hB hGg hS1 (((Only.alloc _ w _).trans (Only.alloc _ _ _)).trans ho) ?_ ?_ ?_ ?_ <;> simp at hlt ⊢ <;> omega
end Go.Proofs.YtcdhbfhijkdfoaaDoor
