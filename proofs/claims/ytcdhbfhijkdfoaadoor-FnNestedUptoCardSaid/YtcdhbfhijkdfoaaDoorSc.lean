/-
  Two operations of a drawn region that may come up in either order; impl.ReadAll; laws.comma; spec.Same of equal tables.
-/
import Derived.Test.YtcdhbfhijkdfoaaDoorSb
namespace Go.EC
open Go.RowKit
section
variable {P : Program} {n : Nat} {ops : Array Oper} {e : Env} {w w' : World} {M : Env → World → Prop} {fuel i j : Nat} {listed listed' : Array Bool} {d : Nat} {op : Op} {ty : TypeId} {pos : String} {af : Array Edge} {v : Value} {f : FuncId} {args : Array Value}
/-- Operation i comes up now. -/
def WO (P : Program) (n : Nat) (ops : Array Oper) (M : Env → World → Prop) (fuel : Nat) (listed : Array Bool) (i : Nat) (e : Env) (w : World) : Prop :=
  Closed ops listed → ∀ a, Rep n a e → wpOp P ops (fun x a w => x = .normal ∧ NA n M a w) i (wpAny P .any ops (fun x a w => x = .normal ∧ NA n M a w) fuel (listed.setIfInBounds i true)) a w
theorem WA_two (hr : Region.ready .any ops listed = [i, j]) (hi : WO P n ops M fuel listed i e w) (hj : WO P n ops M fuel listed j e w) : WA P n ops M (fuel + 1) listed e w := fun hcl a ha => by
  refine wpAny_all hr (by simp) fun k hk => ?_
  rcases List.mem_cons.1 hk with rfl | hk
  · exact hi hcl a ha
  · obtain rfl : k = j := by simpa using hk
    exact hj hcl a ha
theorem WO_val (hm : (Region.ready .any ops listed).contains i = true) (ho : ops[i]? = some ⟨some d, op, ty, pos, af, none⟩) (hl : listed.setIfInBounds i true = listed') (hrun : (execOp (ev e) ⟨some d, op, ty, pos, af, none⟩).run P w = .ok (.value v) w') (hd : Nat.blt d n = true)
    (h : WA P n ops M fuel listed' (upd e d v) w') : WO P n ops M fuel listed i e w := fun hcl a ha => by
  subst hl
  have hcl' := hcl.set (i := i) (by simpa using hm)
  unfold wpOp
  simp only [ho, Region.wanted, if_true]
  left
  unfold Oper.wp
  rw [ha.eval, hrun]
  exact h hcl' _ (ha.put (d := some d) (okD_lt (d := some d) hd) v)
theorem WO_call (hm : (Region.ready .any ops listed).contains i = true) (ho : ops[i]? = some ⟨some d, op, ty, pos, af, none⟩) (hl : listed.setIfInBounds i true = listed') (hrun : (execOp (ev e) ⟨some d, op, ty, pos, af, none⟩).run P w = .ok (.enter f args) w') (hd : Nat.blt d n = true)
    (h : Ret P f args w' fun v w'' => WA P n ops M fuel listed' (upd e d v) w'') : WO P n ops M fuel listed i e w := fun hcl a ha => by
  subst hl
  have hcl' := hcl.set (i := i) (by simpa using hm)
  unfold wpOp
  simp only [ho, Region.wanted, if_true]
  left
  unfold Oper.wp
  rw [ha.eval, hrun]
  refine Calls.mono h fun en w2 ⟨u, he, h'⟩ => ?_
  subst he
  exact h' hcl' _ (ha.put (d := some d) (okD_lt (d := some d) hd) u)
end
end Go.EC
namespace Go.Proofs.YtcdhbfhijkdfoaaDoor
open Go.EC Go.RowKit
theorem utf8_encR (r : Int) : Utf8.encode r = ⟨(encR r).toArray⟩ := by
  unfold encR
  apply ba_ext
  simp
theorem comma_ok (o : Opt) (w : World) : Ret Tryd.prog 18 #[.agg o.cells.toArray] w fun v w' => v = strV (encR o.comma) ∧ Only (fun _ => False) w w' := by
  refine ret_of_W Tryd.func18 rfl (Nat.le_of_ble_eq_true rfl) ?_
  have hO := Blk.new w 23 o.cells
  conv => arg 3; whnf
  refine W_seq ?_
  refine W_region ?_
  refine V (x_box (cs := o.cells) rfl) rfl ?_
  refine V (x_assign (by conv => lhs; whnf)) rfl ?_
  refine WL_nil ?_
  refine W_seq ?_
  refine W_region ?_
  refine V (x_loadA Tryd.underlying23 (cs := o.cells) szO rfl hO) rfl ?_
  refine C (x_call1 cf33 (by conv => lhs; whnf)) rfl ?_
  refine (commaRune_ok o _).mono fun v w1 h1 => ?_
  obtain ⟨rfl, ho1⟩ := h1
  refine V (x_rune_str Tryd.underlying21 Tryd.underlying9 rfl) rfl ?_
  refine V (x_assign (by conv => lhs; whnf)) rfl ?_
  refine WL_nil ?_
  refine W_ret ?_
  repeat (with_reducible (first | refine rt ?_ | refine rb ?_))
  exact bodyE_1 rfl rfl ⟨by unfold strV; rw [← utf8_encR]; rfl, (Only.alloc _ w _).trans ho1⟩
/-- A new reader's fields. -/
def newFld (o : Opt) (b : Nat) : Fld := { cm := o.comma, ct := o.ct, fpr := o.ex, lz := o.lz, tr := o.tr, re := o.re, tc := false, b := b, nl := 0, off := 0, raw := .slice none 0 0, rec_ := .slice none 0 0, idx := .slice none 0 0, psn := .slice none 0 0, last := .slice none 0 0 }
theorem Blks_new {a g s b k : Nat} {o : Opt} (h : Blks a g s (newFld o b) k) : k = a ∨ k = b ∨ k = g ∨ k = s := by
  rcases h with h | h | h | h | h | h | h | h
  · exact .inl h
  · exact .inr (.inl h)
  · exact .inr (.inr (.inl h))
  · exact .inr (.inr (.inr h))
  · cases h
  · cases h
  · cases h
  · cases h
theorem reader_start {str : ByteArray} {o : Opt} {er : Nat → Addr} {w0 w1 : World} {a b g s : Nat} (hC : CBlk w1 a (newFld o b)) (hB : BBlk w1 b g s 0 0 .nilIface (-1) (-1)) (hGg : Blk w1 g 5 (List.replicate 4096 (.int .u8 0))) (hSs : SBlk w1 s str 0 (-1)) (ho1 : Only (fun _ => False) w0 w1)
    (la : w0.heap.size ≤ a) (lb : w0.heap.size ≤ b) (lg : w0.heap.size ≤ g) (ls : w0.heap.size ≤ s) (hG0 : Glob w0 er) (hU0 : Lib.Utf8Tabs 10 11 w0) (h13 : 13 ≤ w0.heap.size) (hS : str.size ≤ 2147483648) :
    RS w0.heap.size a g s (newFld o b) w1 str [] w1 (newFld o b) 0 str.data.toList [] [] 0 none 0 [] ∧ Start w0.heap.size a g s (newFld o b) er w1 := by
  have hlo : ∀ k, Blks a g s (newFld o b) k → w0.heap.size ≤ k := fun k hk => by
    rcases Blks_new hk with rfl | rfl | rfl | rfl <;> assumption
  have none_ : ∀ k, (Value.slice none 0 0).ownBlock = some k → False := fun k hk => by cases hk
  refine ⟨⟨⟨⟨hC, ⟨[], str.data.toList, _, 0, -1, -1, 0, -1, ⟨hB, hGg, hSs, ⟨List.length_replicate, rfl, by omega, fun j b hj => by simp at hj, fun v hv => by rw [List.eq_of_mem_replicate hv]; rfl⟩, rfl, Nat.zero_le _, hS⟩, rfl⟩, ⟨0, [], Own.nil _ _ _⟩, fun h => none_ _ h, ⟨la, lb, lg, ls, fun k hk => (none_ k hk).elim⟩⟩, Own.nil _ _ _, fun h => none_ _ h, fun k hk => (none_ k hk).elim, Own.nil _ _ _, ⟨[], Own.nil _ _ _⟩, ⟨fun k hk => (none_ k hk).elim, fun k hk => (none_ k hk).elim, fun k hk => (none_ k hk).elim⟩⟩,
    ⟨by simp, fun hh => absurd rfl hh⟩, by simp, Only.refl _ _, fun k hk => .inl hk, ⟨rfl, rfl, rfl, rfl, rfl, rfl⟩⟩, ?_⟩
  have hb := ho1.below (B := w0.heap.size) (fun _ h => h.elim) (Nat.le_refl _)
  refine ⟨hlo, ho1.size, ⟨h13, fun j hj => ?_⟩, hG0.only ho1 (fun _ h => h.elim), tabs_below hU0 hb h13⟩
  obtain ⟨t, cs, h2⟩ := hG0.lt j hj
  exact h2.lt
/-- What impl.ReadAll gives of a text with these records. -/
def ImplOk (w : World) (tbl : List (List Bytes)) : Value → World → Prop := fun v w' => ∃ vs rows, v = .tuple #[vs, .int .i64 0] ∧ TabV w' vs rows tbl ∧ Only (fun _ => False) w w'
theorem implReadAll_ok (str : ByteArray) (o : Opt) (er : Nat → Addr) (w : World) (tbl : List (List Bytes)) (hG : Glob w er) (hU : Lib.Utf8Tabs 10 11 w) (hgood : o.good = true) (htr : o.tr = false) (hex : o.ex = -1) (hT : Tab (encR o.comma) o.lz o.ct str.data.toList tbl) (hS : str.size ≤ 2147483648) (hN : tbl.length ≤ 2147487744) :
    Ret Tryd.prog 19 #[.string str, .agg o.cells.toArray] w (ImplOk w tbl) := by
  refine ret_of_W Tryd.func19 rfl (Nat.le_of_ble_eq_true rfl) ?_
  have hO := Blk.new w 23 o.cells
  have hAl : Only (fun _ => False) w (w.alloc (.cells o.cells.toArray 23)) := Only.alloc _ _ _
  have hsz : (w.alloc (.cells o.cells.toArray 23)).heap.size = w.heap.size + 1 := by simp
  obtain ⟨hok1, hok2, hok3⟩ := Opt.ok hgood
  have h12 : 12 ≤ w.heap.size := by
    have := cell_lt (hU.2 0 (by decide)).1
    simp at this
    omega
  have hG1 : Glob (w.alloc (.cells o.cells.toArray 23)) er := hG.only hAl fun _ h => h.elim
  have hU1 : Lib.Utf8Tabs 10 11 (w.alloc (.cells o.cells.toArray 23)) := by
    refine ⟨fun i hi => ?_, fun i hi => ?_⟩
    · exact (World.cell?_of_block (hAl.block 10 (by omega) id)).trans (hU.1 i hi)
    · obtain ⟨h1, h2⟩ := hU.2 i hi
      exact ⟨(World.cell?_of_block (hAl.block 11 (by omega) id)).trans h1, (World.cell?_of_block (hAl.block 11 (by omega) id)).trans h2⟩
  conv => arg 3; whnf
  refine W_seq ?_
  refine W_region ?_
  refine V (x_box (cs := o.cells) rfl) rfl ?_
  refine V (x_assign (by conv => lhs; whnf)) rfl ?_
  refine V (x_assign (by conv => lhs; whnf)) rfl ?_
  refine WL_nil ?_
  refine W_seq ?_
  refine W_region ?_
  refine V (x_move (by conv => lhs; whnf)) rfl ?_
  refine V (x_loadA Tryd.underlying23 (cs := o.cells) szO rfl hO) rfl ?_
  refine C (x_call2 cf34 (by conv => lhs; whnf) (by conv => lhs; whnf)) rfl ?_
  refine (reader_ok str o _).mono fun v w1 h1 => ?_
  obtain ⟨a, b, g, s, rfl, hC, hB, hGg, hSs, ho1, la, lb, lg, ls⟩ := h1
  obtain ⟨hR, hst⟩ := reader_start (o := o) hC hB hGg hSs ho1 la lb lg ls hG1 hU1 (by omega) hS
  refine C (x_call1 cf35 (by conv => lhs; whnf)) rfl ?_
  refine (ReadAll_ok (tbl := tbl) (cm := encR o.comma) hR hst ⟨rfl, hok1⟩ htr hok2 hok3 hex hT hN).mono fun v w2 h2 => ?_
  obtain ⟨vs, rows, rfl, hV, ho2, hG2⟩ := h2
  refine V (x_move (by conv => lhs; whnf)) rfl ?_
  refine V (x_extract rfl rfl) rfl ?_
  refine V (x_extract rfl rfl) rfl ?_
  refine V (x_assign (by conv => lhs; whnf)) rfl ?_
  refine V (x_assign (by conv => lhs; whnf)) rfl ?_
  refine WL_nil ?_
  refine W_seq ?_
  refine W_region ?_
  refine V (x_move (by conv => lhs; whnf)) rfl ?_
  refine V (x_move (by conv => lhs; whnf)) rfl ?_
  refine C (x_call1 cf36 (by conv => lhs; whnf)) rfl ?_
  refine (kind_nil _).mono fun v w3 h3 => ?_
  obtain ⟨rfl, rfl⟩ := h3
  refine V (x_assign (by conv => lhs; whnf)) rfl ?_
  refine V (x_assign (by conv => lhs; whnf)) rfl ?_
  refine WL_nil ?_
  refine W_ret ?_
  repeat (with_reducible (first | refine rt ?_ | refine rb ?_))
  exact bodyE_2 rfl rfl rfl ⟨vs, rows, rfl, hV, (hAl.trans ho1).then_ ho2 fun k hk hb => by rcases Blks_new hb with rfl | rfl | rfl | rfl <;> omega⟩
end Go.Proofs.YtcdhbfhijkdfoaaDoor
