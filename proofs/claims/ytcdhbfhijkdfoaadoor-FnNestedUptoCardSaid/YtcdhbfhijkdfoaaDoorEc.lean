/-
  A small calculus for walking Go code with frames as functions from slots to values. No program in sight.
-/
import Derived.Orders
import Derived.Below
import Derived.Tactics2
namespace Go.EC
open Go.RowKit

abbrev Env := Nat → Value
/-- Slot d of the frame holds v. -/
def upd (e : Env) (d : Nat) (v : Value) : Env := fun t => bif Nat.beq t d then v else e t
def updo (e : Env) : Option Nat → Value → Env
  | some d, v => upd e d v
  | none, _ => e
def ev (e : Env) : Operand → Value
  | .tmp t => e t
  | .const v => v
  | .global g => .pointer (some ⟨g, 0, none⟩)
  | .func f => .func (.func f) #[] #[]

theorem upd_same (e : Env) (d : Nat) (v : Value) : upd e d v d = v := by simp [upd]
theorem upd_ne (e : Env) {d t : Nat} (v : Value) (h : t ≠ d) : upd e d v t = e t := by
  have hb : Nat.beq t d = false := by
    cases hb : Nat.beq t d
    · rfl
    · exact absurd (Nat.eq_of_beq_eq_true hb) h
  simp [upd, hb]
theorem upd_self {e : Env} {d : Nat} {v : Value} (h : e d = v) : upd e d v = e := by
  funext t
  by_cases ht : t = d
  · subst ht; rw [upd_same, h]
  · rw [upd_ne _ _ ht]

/-- The frame a is the function e (n slots, no deferred call). -/
structure Rep (n : Nat) (a : Act) (e : Env) : Prop where
  defers : a.defers = []
  size : a.tmps.size = n
  get : ∀ t, a.tmps.getD t undef = e t

theorem Rep.eval {n : Nat} {a : Act} {e : Env} (h : Rep n a e) : a.eval = ev e := by
  funext x
  cases x with
  | tmp t => exact h.get t
  | const v => rfl
  | global g => rfl
  | func f => rfl

theorem Rep.put {n : Nat} {a : Act} {e : Env} (h : Rep n a e) {d : Option Nat} (hd : ∀ k, d = some k → k < n) (v : Value) : Rep n (a.put d v) (updo e d v) := by
  cases d with
  | none => exact h
  | some k =>
    have hk := hd k rfl
    refine ⟨h.defers, by simp [Act.put, h.size], fun t => ?_⟩
    by_cases ht : t = k
    · subst ht
      simp [Act.put, updo, upd_same, h.size, hk]
    · simp only [Act.put, updo]
      rw [upd_ne _ _ ht, ← h.get t]
      simp [Array.getElem?_setIfInBounds_ne (Ne.symm ht)]

/-- What an earlier operation of the region has said, for a guard. -/
def yl (ops : Array Oper) (e : Env) (j : Nat) : Option Bool :=
  match (ops[j]?).bind (·.dst) with
  | some d => (match e d with | .bool b => some b | _ => none)
  | none => none
theorem Rep.yielded {n : Nat} {a : Act} {e : Env} (h : Rep n a e) (ops : Array Oper) : Go.yielded ops a.tmps = yl ops e := by
  funext j
  unfold Go.yielded yl
  cases hj : (ops[j]?).bind (·.dst) with
  | none => rfl
  | some d =>
    have hg := h.get d
    simp only [Option.bind_some]
    by_cases hd : d < a.tmps.size
    · simp [Array.getD, hd] at hg
      simp only [Array.getElem?_eq_getElem hd, hg]
      cases e d <;> rfl
    · simp only [Array.getElem?_eq_none (Nat.le_of_not_lt hd)]
      simp [Array.getD, hd] at hg
      rw [← hg]
      rfl

def lft (n : Nat) (Q : Exit → Env → World → Prop) : Exit → Act → World → Prop := fun x a w => ∃ e, Rep n a e ∧ Q x e w
/-- The code c, from the frame e and the world w, comes to an end that Q allows. -/
def W (P : Program) (n : Nat) (c : Code) (Q : Exit → Env → World → Prop) (e : Env) (w : World) : Prop :=
  ∀ a, Rep n a e → c.wp P (lft n Q) a w
def thn (N : Env → World → Prop) (Q : Exit → Env → World → Prop) : Exit → Env → World → Prop
  | .normal, e, w => N e w
  | x, e, w => Q x e w
def inB (id : Nat) (Q : Exit → Env → World → Prop) : Exit → Env → World → Prop
  | .exit id', e, w => if id' = id then Q .normal e w else Q (.exit id') e w
  | x, e, w => Q x e w

section
variable {P : Program} {n : Nat} {Q Q' : Exit → Env → World → Prop} {e : Env} {w : World}

theorem W.mono {c : Code} (h : W P n c Q e w) (hq : ∀ x e w, Q x e w → Q' x e w) : W P n c Q' e w :=
  fun a ha => Go.wp_mono (h a ha) fun _ _ _ ⟨e', hr, h'⟩ => ⟨e', hr, hq _ _ _ h'⟩
theorem W_skip (h : Q .normal e w) : W P n .skip Q e w := fun _ ha => wp_skip ⟨e, ha, h⟩
theorem W_label {l : Nat} (h : Q .normal e w) : W P n (.label l) Q e w := fun _ ha => wp_label ⟨e, ha, h⟩
theorem W_exit {id : Nat} (h : Q (.exit id) e w) : W P n (.exit id) Q e w := fun _ ha => wp_exit ⟨e, ha, h⟩
theorem W_ret (h : Q .ret e w) : W P n .ret Q e w := fun _ ha => wp_ret ⟨e, ha, h⟩
/-- Parts of a piece of code, to speak of what is left. -/
def sndC : Code → Code
  | .seq _ b => b
  | c => c
def fstC : Code → Code
  | .seq a _ => a
  | c => c
def inC : Code → Code
  | .block _ c => c
  | .loop c => c
  | c => c
def thenC : Code → Code
  | .cond _ a _ => a
  | c => c
def elseC : Code → Code
  | .cond _ _ b => b
  | c => c
def bodyOf (f : Func) : Code := f.body.getD .skip
theorem W_seq {x y : Code} (h : W P n x (thn (W P n y Q) Q) e w) : W P n (.seq x y) Q e w := fun a ha =>
  wp_seq (Go.wp_mono (h a ha) fun ex a' w' ⟨e', hr, hq⟩ => by
    cases ex <;> first | exact hq a' hr | exact ⟨e', hr, hq⟩)
/-- A cut: what holds between the two. -/
theorem W_cut {x y : Code} (Mid : Env → World → Prop) (h1 : W P n x (thn Mid fun _ _ _ => False) e w) (h2 : ∀ e w, Mid e w → W P n y Q e w) : W P n (.seq x y) Q e w :=
  W_seq (h1.mono fun ex e w hq => by cases ex <;> first | exact h2 _ _ hq | exact hq.elim)
theorem W_true {c : Operand} {x y : Code} (hc : ev e c = .bool true) (h : W P n x Q e w) : W P n (.cond c x y) Q e w :=
  fun a ha => wp_cond_true (by rw [ha.eval]; exact hc) (h a ha)
theorem W_false {c : Operand} {x y : Code} (hc : ev e c = .bool false) (h : W P n y Q e w) : W P n (.cond c x y) Q e w :=
  fun a ha => wp_cond_false (by rw [ha.eval]; exact hc) (h a ha)
theorem W_cond {c : Operand} {x y : Code} {t : Bool} (hc : ev e c = .bool t) (ht : t = true → W P n x Q e w) (hf : t = false → W P n y Q e w) : W P n (.cond c x y) Q e w := by
  cases t
  · exact W_false hc (hf rfl)
  · exact W_true hc (ht rfl)
theorem W_block {id : Nat} {c : Code} (h : W P n c (inB id Q) e w) : W P n (.block id c) Q e w := fun a ha =>
  wp_block (Go.wp_mono (h a ha) fun ex a' w' ⟨e', hr, hq⟩ => by
    cases ex with
    | exit id' =>
      simp only [inB] at hq
      simp only [Exit.inBlock]
      split
      · rename_i h1; rw [if_pos h1] at hq; exact ⟨e', hr, hq⟩
      · rename_i h1; rw [if_neg h1] at hq; exact ⟨e', hr, hq⟩
    | _ => exact ⟨e', hr, hq⟩)
def envOf (a : Act) : Env := fun t => a.tmps.getD t undef
theorem Rep.env {a : Act} (h : Rep n a e) : envOf a = e := funext h.get

open Classical in
noncomputable def least (I : Nat → Prop) : Nat := if h : ∃ k, I k then Nat.find' I h else 0
where
  Nat.find' (I : Nat → Prop) (h : ∃ k, I k) : Nat := Classical.choose (exists_least I h)
  exists_least (I : Nat → Prop) (h : ∃ k, I k) : ∃ k, I k ∧ ∀ j, I j → k ≤ j := by
    obtain ⟨k, hk⟩ := h
    induction k using Nat.strongRecOn with
    | _ k ih =>
      by_cases hs : ∃ j, j < k ∧ I j
      · obtain ⟨j, hj, hI⟩ := hs; exact ih j hj hI
      · exact ⟨k, hk, fun j hj => Nat.le_of_not_lt fun hlt => hs ⟨j, hlt, hj⟩⟩
theorem least_spec {I : Nat → Prop} {k : Nat} (h : I k) : I (least I) ∧ least I ≤ k := by
  have hex : ∃ k, I k := ⟨k, h⟩
  have hs := Classical.choose_spec (least.exists_least I hex)
  have hl : least I = Classical.choose (least.exists_least I hex) := by unfold least; rw [dif_pos hex]; rfl
  rw [hl]
  exact ⟨hs.1, hs.2 k h⟩

/-- A loop: the invariant bears a number that every round lowers. -/
theorem W_loop {c : Code} (I : Nat → Env → World → Prop) {k0 : Nat} (h0 : I k0 e w)
    (round : ∀ k e w, I k e w → W P n c (thn (fun e' w' => ∃ k', k' < k ∧ I k' e' w') Q) e w) : W P n (.loop c) Q e w := fun a ha => by
  refine wp_loop (fun a w => a.defers = [] ∧ a.tmps.size = n ∧ ∃ k, I k (envOf a) w) (fun a w => least fun k => I k (envOf a) w) ⟨ha.defers, ha.size, k0, by rw [ha.env]; exact h0⟩ ?_
  rintro a w ⟨hd, hs, k, hk⟩
  obtain ⟨hI, _⟩ := least_spec (I := fun k => I k (envOf a) w) hk
  have hr : Rep n a (envOf a) := ⟨hd, hs, fun _ => rfl⟩
  refine Go.wp_mono (round _ _ _ hI a hr) fun ex a' w' ⟨e', hr', hq⟩ => ?_
  cases ex with
  | normal =>
    obtain ⟨k', hlt, hI'⟩ := hq
    have he := hr'.env
    refine ⟨⟨hr'.defers, hr'.size, k', by rw [he]; exact hI'⟩, ?_⟩
    have := (least_spec (I := fun k => I k (envOf a') w') (k := k') (by rw [he]; exact hI')).2
    exact Nat.lt_of_le_of_lt this hlt
  | _ => exact ⟨e', hr', hq⟩

/-- A loop that is left in its first round. -/
theorem W_once {c : Code} (h : W P n c (thn (fun _ _ => False) Q) e w) : W P n (.loop c) Q e w :=
  W_loop (fun _ e' w' => e' = e ∧ w' = w) (k0 := 0) ⟨rfl, rfl⟩ fun _ e' w' ⟨he, hw⟩ => by
    subst he; subst hw
    exact h.mono fun x e w hq => by cases x <;> first | exact hq | exact hq.elim

/-! Operations, one behind the other. -/
def WL (P : Program) (n : Nat) (ops : Array Oper) (Q : Exit → Env → World → Prop) (l : List Oper) (e : Env) (w : World) : Prop :=
  ∀ a, Rep n a e → wpList P ops (lft n Q) l a w
theorem W_region {id : Nat} {l : List Oper} (h : WL P n l.toArray Q l e w) : W P n (.region id l.toArray false) Q e w :=
  fun a ha => wp_region_lit (h a ha)
variable {ops : Array Oper} {rest : List Oper}
theorem WL_nil (h : Q .normal e w) : WL P n ops Q [] e w := fun _ ha => wpList_nil ⟨e, ha, h⟩
def okD (n : Nat) : Option Nat → Bool
  | some d => Nat.blt d n
  | none => true
theorem okD_lt {n : Nat} {d : Option Nat} (h : okD n d = true) : ∀ k, d = some k → k < n := by
  rintro k rfl
  exact Nat.le_of_ble_eq_true h
/-- An operation that yields a value. -/
theorem WL_val {o : Oper} {v : Value} {w' : World} (hg : o.guard = none) (hrun : (execOp (ev e) o).run P w = .ok (.value v) w') (hd : okD n o.dst = true) (h : WL P n ops Q rest (updo e o.dst v) w') :
    WL P n ops Q (o :: rest) e w := fun a ha =>
  wpList_plain hg fun K hK => by
    unfold Oper.wp
    rw [ha.eval, hrun]
    exact hK _ _ (h _ (ha.put (okD_lt hd) v))
/-- A guarded one that is wanted. -/
theorem WL_valG {o : Oper} {j : Nat} {b : Bool} {v : Value} {w' : World} (hg : o.guard = some (j, b)) (hy : yl ops e j = some b) (hrun : (execOp (ev e) o).run P w = .ok (.value v) w') (hd : okD n o.dst = true)
    (h : WL P n ops Q rest (updo e o.dst v) w') : WL P n ops Q (o :: rest) e w := fun a ha =>
  wpList_step fun K hK => by
    have hw : Region.wanted o (yielded ops a.tmps) = true := by simp [Region.wanted, hg, ha.yielded, hy]
    rw [if_pos hw]
    unfold Oper.wp
    rw [ha.eval, hrun]
    exact hK _ _ (h _ (ha.put (okD_lt hd) v))
theorem WL_skipG {o : Oper} {j : Nat} {b b' : Bool} (hg : o.guard = some (j, b)) (hy : yl ops e j = some b') (hb : b' ≠ b) (hd : okD n o.dst = true)
    (h : WL P n ops Q rest (updo e o.dst undef) w) : WL P n ops Q (o :: rest) e w := fun a ha =>
  wpList_skip (by simp [Region.wanted, hg, ha.yielded, hy, hb]) (h _ (ha.put (okD_lt hd) undef))
/-- One that yields nothing (a store). -/
theorem WL_do {o : Oper} {w' : World} (hg : o.guard = none) (hrun : (execOp (ev e) o).run P w = .ok .skip w') (hd : okD n o.dst = true) (h : WL P n ops Q rest (updo e o.dst undef) w') :
    WL P n ops Q (o :: rest) e w := fun a ha =>
  wpList_plain hg fun K hK => by
    unfold Oper.wp
    rw [ha.eval, hrun]
    exact hK _ _ (h _ (ha.put (okD_lt hd) undef))

/-- The function returns, with a value and a world that R allows. -/
def Ret (P : Program) (f : FuncId) (args : Array Value) (w : World) (R : Value → World → Prop) : Prop :=
  Calls P f args w fun e w' => ∃ v, e = .returned v ∧ R v w'
theorem Ret.mono {f : FuncId} {args : Array Value} {R R' : Value → World → Prop} (h : Ret P f args w R) (hr : ∀ v w', R v w' → R' v w') : Ret P f args w R' :=
  Calls.mono h fun _ _ ⟨v, he, h'⟩ => ⟨v, he, hr _ _ h'⟩
theorem WL_call {o : Oper} {f : FuncId} {args : Array Value} {w0 : World} (hg : o.guard = none) (hrun : (execOp (ev e) o).run P w = .ok (.enter f args) w0) (hd : okD n o.dst = true)
    (h : Ret P f args w0 fun v w' => WL P n ops Q rest (updo e o.dst v) w') : WL P n ops Q (o :: rest) e w := fun a ha =>
  wpList_plain hg fun K hK => by
    unfold Oper.wp
    rw [ha.eval, hrun]
    refine Calls.mono h fun en w' ⟨v, he, h'⟩ => ?_
    subst he
    exact hK _ _ (h' _ (ha.put (okD_lt hd) v))
theorem WL_callG {o : Oper} {j : Nat} {b : Bool} {f : FuncId} {args : Array Value} {w0 : World} (hg : o.guard = some (j, b)) (hy : yl ops e j = some b) (hrun : (execOp (ev e) o).run P w = .ok (.enter f args) w0) (hd : okD n o.dst = true)
    (h : Ret P f args w0 fun v w' => WL P n ops Q rest (updo e o.dst v) w') : WL P n ops Q (o :: rest) e w := fun a ha =>
  wpList_step fun K hK => by
    have hw : Region.wanted o (yielded ops a.tmps) = true := by simp [Region.wanted, hg, ha.yielded, hy]
    rw [if_pos hw]
    unfold Oper.wp
    rw [ha.eval, hrun]
    refine Calls.mono h fun en w' ⟨v, he, h'⟩ => ?_
    subst he
    exact hK _ _ (h' _ (ha.put (okD_lt hd) v))

section
variable {d : Nat} {op : Op} {ty : TypeId} {pos : String} {af : Array Edge} {j : Nat} {b b' : Bool} {v : Value} {w' : World} {f : FuncId} {args : Array Value}
theorem V (hrun : (execOp (ev e) ⟨some d, op, ty, pos, af, none⟩).run P w = .ok (.value v) w') (hd : Nat.blt d n = true) (h : WL P n ops Q rest (upd e d v) w') :
    WL P n ops Q (⟨some d, op, ty, pos, af, none⟩ :: rest) e w := WL_val rfl hrun hd h
theorem VG (hy : yl ops e j = some b) (hrun : (execOp (ev e) ⟨some d, op, ty, pos, af, some (j, b)⟩).run P w = .ok (.value v) w') (hd : Nat.blt d n = true) (h : WL P n ops Q rest (upd e d v) w') :
    WL P n ops Q (⟨some d, op, ty, pos, af, some (j, b)⟩ :: rest) e w := WL_valG rfl hy hrun hd h
theorem SG (hy : yl ops e j = some b') (hb : b' ≠ b) (hd : Nat.blt d n = true) (h : WL P n ops Q rest (upd e d undef) w) :
    WL P n ops Q (⟨some d, op, ty, pos, af, some (j, b)⟩ :: rest) e w := WL_skipG rfl hy hb hd h
theorem SU (hy : yl ops e j = none) (hd : Nat.blt d n = true) (h : WL P n ops Q rest (upd e d undef) w) :
    WL P n ops Q (⟨some d, op, ty, pos, af, some (j, b)⟩ :: rest) e w := fun _ ha =>
  wpList_skip (by simp [Region.wanted, ha.yielded, hy]) (h _ (ha.put (d := some d) (okD_lt (d := some d) hd) undef))
theorem S (hrun : (execOp (ev e) ⟨none, op, ty, pos, af, none⟩).run P w = .ok .skip w') (h : WL P n ops Q rest e w') :
    WL P n ops Q (⟨none, op, ty, pos, af, none⟩ :: rest) e w := WL_do rfl hrun rfl h
theorem C (hrun : (execOp (ev e) ⟨some d, op, ty, pos, af, none⟩).run P w = .ok (.enter f args) w') (hd : Nat.blt d n = true) (h : Ret P f args w' fun v w' => WL P n ops Q rest (upd e d v) w') :
    WL P n ops Q (⟨some d, op, ty, pos, af, none⟩ :: rest) e w := WL_call rfl hrun hd h
theorem CG (hy : yl ops e j = some b) (hrun : (execOp (ev e) ⟨some d, op, ty, pos, af, some (j, b)⟩).run P w = .ok (.enter f args) w') (hd : Nat.blt d n = true) (h : Ret P f args w' fun v w' => WL P n ops Q rest (upd e d v) w') :
    WL P n ops Q (⟨some d, op, ty, pos, af, some (j, b)⟩ :: rest) e w := WL_callG rfl hy hrun hd h
end

/-! A function's body. -/
def bodyE (P : Program) (fn : Func) (R : Value → World → Prop) : Exit → Env → World → Prop
  | .normal, e, w | .ret, e, w => ∃ v, (∀ tmps : Array Value, (∀ t, tmps.getD t undef = e t) → (results fn tmps).run P w = .ok v w) ∧ R v w
  | _, _, _ => False
def env0 (args : Array Value) : Env := fun t => args.getD t undef
theorem ret_of_W {f : FuncId} {fn : Func} {c : Code} {args : Array Value} {R : Value → World → Prop} (hf : P.funcs[f]? = some fn) (hb : fn.body = some c) (hn : args.size ≤ fn.ntmps)
    (h : W P fn.ntmps c (bodyE P fn R) (env0 args) w) : Ret P f args w R := by
  refine calls_of_wp hf hb (Go.wp_mono (h _ ⟨rfl, by simp; omega, fun t => ?_⟩) fun ex a w' ⟨e', hr, hq⟩ => ?_)
  · unfold env0
    rw [Array.getD_eq_getD_getElem?, Array.getD_eq_getD_getElem?, Array.getElem?_append]
    by_cases ht : t < args.size
    · rw [if_pos ht]
    · rw [if_neg ht, Array.getElem?_eq_none (Nat.le_of_not_lt ht), Array.getElem?_replicate]
      split <;> rfl
  · cases ex with
    | normal => obtain ⟨v, hv, hR⟩ := hq; exact ⟨hr.defers, v, hv _ hr.get, v, rfl, hR⟩
    | ret => obtain ⟨v, hv, hR⟩ := hq; exact ⟨hr.defers, v, hv _ hr.get, v, rfl, hR⟩
    | _ => exact hq.elim
theorem bodyE_mono {fn : Func} {R R' : Value → World → Prop} (hR : ∀ v w, R v w → R' v w) (x : Exit) (e : Env) (w : World) (h : bodyE P fn R x e w) : bodyE P fn R' x e w := by
  cases x with
  | normal => obtain ⟨v, h1, h2⟩ := h; exact ⟨v, h1, hR _ _ h2⟩
  | ret => obtain ⟨v, h1, h2⟩ := h; exact ⟨v, h1, hR _ _ h2⟩
  | _ => exact h.elim
theorem bodyE_1 {fn : Func} {t : Tmp} {R : Value → World → Prop} (hfn : fn.results = #[.tmp t]) {v : Value} (hv : e t = v) (h : R v w) : bodyE P fn R .ret e w :=
  ⟨v, fun tmps ht => by rw [results_tmp hfn, ht t, hv], h⟩
theorem bodyE_2 {fn : Func} {t u : Tmp} {R : Value → World → Prop} (hfn : fn.results = #[.tmp t, .tmp u]) {v v' : Value} (hv : e t = v) (hv' : e u = v') (h : R (.tuple #[v, v']) w) : bodyE P fn R .ret e w :=
  ⟨.tuple #[v, v'], fun tmps ht => by rw [results_tmp2 hfn, ht t, ht u, hv, hv'], h⟩
theorem bodyE_0 {fn : Func} {R : Value → World → Prop} (hfn : fn.results = #[]) (h : R (.tuple #[]) w) : bodyE P fn R .normal e w :=
  ⟨.tuple #[], fun tmps _ => by rw [results_none hfn], h⟩
theorem bodyE_0r {fn : Func} {R : Value → World → Prop} (hfn : fn.results = #[]) (h : R (.tuple #[]) w) : bodyE P fn R .ret e w :=
  ⟨.tuple #[], fun tmps _ => by rw [results_none hfn], h⟩
end
end Go.EC
