/-
  Regions that draw their order, in the calculus of frames as functions. No program in sight.
-/
import Derived.Test.YtcdhbfhijkdfoaaEx
import Derived.Deep.Quiet
namespace Go.EC
open Go.RowKit

/-- The world behind a draw. -/
def dr (w : World) : World := { w with drawn := w.drawn + 1 }

/-! A computation that at most makes new blocks. -/
def grows {α : Type} : Sem α → Prop
  | .pure _ => True
  | .load _ _ k => ∀ v, grows (k v)
  | .store .. => False
  | .new _ k => ∀ r, grows (k r)
  | .shape _ k => ∀ s, grows (k s)
  | .freeze .. => False
  | .frozen _ k => ∀ b, grows (k b)
  | .getObj _ k => ∀ o, grows (k o)
  | .setObj .. => False
  | .choose _ k => ∀ n, grows (k n)
  | .sys .. => False
  | .program k => ∀ p, grows (k p)
  | .mark _ k => grows k
  | .halt _ => True
theorem grows_bind {α β : Type} (s : Sem α) (f : α → Sem β) (h : grows s) (hf : ∀ a, grows (f a)) : grows (s >>= f) := by
  show grows (s.bind f)
  induction s with
  | pure a => exact hf a
  | load m a k ih => exact fun v => ih v (h v)
  | store m a v k ih => exact h.elim
  | new o k ih => exact fun r => ih r (h r)
  | shape r k ih => exact fun v => ih v (h v)
  | freeze a n k ih => exact h.elim
  | frozen a k ih => exact fun v => ih v (h v)
  | getObj r k ih => exact fun v => ih v (h v)
  | setObj r o k ih => exact h.elim
  | choose q k ih => exact fun v => ih v (h v)
  | sys c k ih => exact h.elim
  | program k ih => exact fun v => ih v (h v)
  | mark m k ih => exact ih h
  | halt x => trivial
def Grew (w w' : World) : Prop := w.heap.size ≤ w'.heap.size ∧ ∀ k, k < w.heap.size → w'.heap[k]? = w.heap[k]?
theorem Grew.refl (w : World) : Grew w w := ⟨Nat.le_refl _, fun _ _ => rfl⟩
theorem Grew.trans {a b c : World} (h : Grew a b) (k : Grew b c) : Grew a c :=
  ⟨Nat.le_trans h.1 k.1, fun i hi => (k.2 i (Nat.lt_of_lt_of_le hi h.1)).trans (h.2 i hi)⟩
theorem grows_run {α : Type} {P : Program} (s : Sem α) : ∀ (w : World), grows s → ∀ a w', s.run P w = .ok a w' → Grew w w' := by
  induction s with
  | pure a => intro w _ b w' h; cases h; exact Grew.refl _
  | load m a k ih =>
    intro w h b w' hr
    simp only [Sem.run] at hr
    split at hr
    · exact ih _ w (h _) b w' hr
    · split at hr
      · exact ih _ w (h _) b w' hr
      · cases hr
  | store m a v k ih => intro w h; exact h.elim
  | new o k ih =>
    intro w h b w' hr
    simp only [Sem.run] at hr
    refine Grew.trans ?_ (ih _ _ (h _) b w' hr)
    refine ⟨by simp, fun i hi => ?_⟩
    show (w.heap.push o)[i]? = _
    rw [Array.getElem?_push, if_neg (by omega)]
  | shape r k ih => intro w h b w' hr; exact ih _ w (h _) b w' hr
  | freeze a n k ih => intro w h; exact h.elim
  | frozen a k ih => intro w h b w' hr; exact ih _ w (h _) b w' hr
  | getObj r k ih =>
    intro w h b w' hr
    simp only [Sem.run] at hr
    split at hr
    · cases hr
    · exact ih _ w (h _) b w' hr
    · cases hr
  | setObj r o k ih => intro w h; exact h.elim
  | choose q k ih =>
    intro w h b w' hr
    simp only [Sem.run] at hr
    by_cases hq : q.forced = true
    · rw [if_pos hq] at hr
      exact ih _ w (h _) b w' hr
    · rw [if_neg hq] at hr
      have hg := ih _ _ (h _) b w' hr
      exact ⟨hg.1, hg.2⟩
  | sys c k ih => intro w h; exact h.elim
  | program k ih => intro w h b w' hr; exact ih _ w (h _) b w' hr
  | mark m k ih => intro w h b w' hr; exact ih w h b w' hr
  | halt x => intro w _ b w' hr; cases hr
theorem grows_loadCellsFrom (a : Addr) : ∀ (n i : Nat) (acc : Array Value), grows (loadCellsFrom a i n acc)
  | 0, _, _ => trivial
  | n + 1, i, acc => fun v => grows_loadCellsFrom a n (i + 1) (acc.push v)
theorem grows_typeInfo (t : TypeId) : grows (typeInfo t) := by
  unfold typeInfo program
  refine grows_bind _ _ (fun _ => trivial) fun p => ?_
  split <;> trivial
theorem grows_underlying (t : TypeId) : grows (underlying t) := by
  unfold underlying program
  refine grows_bind _ _ (fun _ => trivial) fun p => ?_
  split <;> trivial
theorem grows_sizeOf (t : TypeId) : grows (sizeOf t) := grows_bind _ _ (grows_typeInfo t) fun _ => trivial
theorem grows_zeroValue (t : TypeId) : grows (zeroValue t) := by
  unfold zeroValue
  refine grows_bind _ _ (grows_typeInfo t) fun i => ?_
  split <;> trivial
theorem grows_newRow (t : TypeId) (cs : Array Value) : grows (newRow t cs) := grows_bind _ _ (fun _ => trivial) fun _ => trivial
theorem grows_isAgg (t : TypeId) : grows (isAgg t) := by
  unfold isAgg
  refine grows_bind _ _ (grows_underlying t) fun i => ?_
  split <;> trivial
theorem grows_sureAddr (v : Value) : grows (Instr.sureAddr v) := by
  unfold Instr.sureAddr
  split <;> trivial

theorem grows_elemOf (t : TypeId) : grows (elemOf t) := by
  unfold elemOf
  refine grows_bind _ _ (grows_underlying t) fun i => ?_
  split <;> trivial
theorem grows_runtimePanic {α : Type} (er : RuntimeError) : grows (runtimePanic er : Sem α) := by
  unfold runtimePanic program
  refine grows_bind _ _ (fun _ => trivial) fun p => ?_
  cases er <;> first
    | trivial
    | exact grows_bind _ _ (grows_elemOf _) fun _ => grows_bind _ _ (grows_newRow _ _) fun _ => trivial
theorem grows_boundsPanic {α : Type} (k : IntKind) (x y : Int) (c : BoundsCode) : grows (boundsPanic k x y c : Sem α) := by
  unfold boundsPanic
  split
  · exact grows_bind _ _ (grows_bind _ _ (fun _ => trivial) fun _ => trivial) fun _ => grows_runtimePanic _
  · exact grows_bind _ _ trivial fun _ => grows_runtimePanic _
theorem grows_asIntOf (v : Value) : grows (asIntOf v) := by
  unfold asIntOf
  split <;> trivial
theorem grows_sliceBound (v : Value) (y : Nat) (c : BoundsCode) : grows (Instr.sliceBound v y c) := by
  unfold Instr.sliceBound
  refine grows_bind _ _ (grows_asIntOf v) fun ki => ?_
  obtain ⟨k, i⟩ := ki
  by_cases h : 0 ≤ i ∧ i ≤ (y : Int)
  · show grows (if 0 ≤ i ∧ i ≤ (y : Int) then pure i.toNat else boundsPanic k i y c)
    rw [if_pos h]; trivial
  · show grows (if 0 ≤ i ∧ i ≤ (y : Int) then pure i.toNat else boundsPanic k i y c)
    rw [if_neg h]; exact grows_boundsPanic _ _ _ _
theorem grows_sliceBounds (a : Bool) (n c : Nat) (l h m : Option Value) : grows (Instr.sliceBounds a n c l h m) := by
  unfold Instr.sliceBounds
  cases l <;> cases h <;> cases m <;> repeat' (first | exact True.intro | exact grows_sliceBound _ _ _ | (refine grows_bind _ _ ?_ (fun _ => ?_)))
theorem grows_asAddr (v : Value) : grows (asAddr v) := by
  unfold asAddr
  split
  · trivial
  · exact grows_runtimePanic _
  · trivial
theorem grows_slice (t : TypeId) (x : Value) (l h m : Option Value) : grows (Instr.slice t x l h m) := by
  unfold Instr.slice
  refine grows_bind _ _ (grows_underlying t) fun dd => ?_
  split
  · split
    · exact grows_bind _ _ trivial fun _ => grows_bind _ _ (grows_sliceBounds _ _ _ _ _ _) fun _ => trivial
    · exact grows_bind _ _ (grows_sliceBounds _ _ _ _ _ _) fun _ => trivial
  · exact grows_bind _ _ (grows_sliceBounds _ _ _ _ _ _) fun _ => grows_bind _ _ (grows_sizeOf _) fun _ => trivial
  · refine grows_bind _ _ (grows_asAddr _) fun _ => grows_bind _ _ (grows_underlying _) fun _ => ?_
    split
    · exact grows_bind _ _ (grows_sliceBounds _ _ _ _ _ _) fun _ => grows_bind _ _ (grows_sizeOf _) fun _ => trivial
    · trivial
  · trivial
theorem grows_sliceAt (t : TypeId) (x : Value) (l h m : Option Value) : grows (Instr.sliceAt t x l h m) := by
  unfold Instr.sliceAt
  refine grows_bind _ _ (grows_underlying t) fun dd => ?_
  split
  · exact grows_bind _ _ (grows_sureAddr _) fun _ => grows_bind _ _ (grows_sliceBounds _ _ _ _ _ _) fun _ => grows_bind _ _ (grows_sizeOf _) fun _ => trivial
  · exact grows_slice _ _ _ _ _

/-- Operations that at most make new blocks, whatever the frame. -/
def kp (o : Oper) : Bool :=
  match o.op with
  | .move _ | .assign _ | .load _ _ | .box _ _ | .buildSlice _ _ _ | .slice _ _ _ _ _ => true
  | _ => false
theorem kp_spec {o : Oper} (h : kp o = true) (ρ : Operand → Value) : ∃ s : Sem Value, execOp ρ o = (do pure (.value (← s))) ∧ grows s := by
  unfold kp at h
  unfold execOp
  split at h
  · rename_i x hx; simp only [hx]; exact ⟨pure (ρ x), rfl, trivial⟩
  · rename_i x hx; simp only [hx]; exact ⟨pure (ρ x), rfl, trivial⟩
  · rename_i t x hx
    simp only [hx]
    refine ⟨_, rfl, ?_⟩
    unfold Instr.loadAt
    refine grows_bind _ _ (grows_sureAddr _) fun a => ?_
    unfold loadVar
    refine grows_bind _ _ (grows_isAgg t) fun b => ?_
    split
    · refine grows_bind _ _ (grows_sizeOf t) fun n => grows_bind _ _ (grows_loadCellsFrom _ _ _ _) fun _ => trivial
    · exact fun _ => trivial
  · rename_i t x hx
    simp only [hx]
    exact ⟨_, rfl, grows_bind _ _ (grows_newRow _ _) fun _ => trivial⟩
  · rename_i t n ps hx
    simp only [hx]
    refine ⟨_, rfl, ?_⟩
    unfold Instr.buildSlice
    refine grows_bind _ _ (grows_underlying t) fun dd => ?_
    split
    · rename_i el
      refine grows_bind _ _ (grows_sizeOf _) fun sz => ?_
      by_cases h1 : n * sz > 2 ^ 24 <;> by_cases h0 : n * sz = 0 <;> simp only [h1, h0, if_true, if_false] <;> repeat' (first | exact True.intro | exact grows_newRow _ _ | exact grows_zeroValue _ | (refine grows_bind _ _ ?_ (fun _ => ?_)) | split)
    · trivial
  · rename_i t x lo hi mx hx
    simp only [hx]
    exact ⟨_, rfl, grows_sliceAt _ _ _ _ _⟩
  · cases h

section
variable {P : Program} {ops : Array Oper}
/-- Operation j waits for operation i, directly or not. -/
def depB (ops : Array Oper) : Nat → Nat → Nat → Bool
  | 0, _, _ => false
  | f + 1, j, i => match ops[j]? with
    | some oj => oj.after.any fun e => Region.binds .any e && (e.on == i || depB ops f e.on i)
    | none => false
def Closed (ops : Array Oper) (listed : Array Bool) : Prop :=
  ∀ j oj, ops[j]? = some oj → listed.getD j false = true → ∀ e ∈ oj.after, Region.binds .any e = true → listed.getD e.on false = true
theorem dep_not {listed : Array Bool} (hc : Closed ops listed) {i : Nat} (hi : listed.getD i false = false) : ∀ (f j : Nat) (oj : Oper), ops[j]? = some oj →
    (∀ e ∈ oj.after, Region.binds .any e = true → listed.getD e.on false = true) → depB ops f j i = false := by
  intro f
  induction f with
  | zero => intro j oj _ _; rfl
  | succ f ih =>
    intro j oj hj hall
    simp only [depB, hj]
    rw [Array.any_eq_false]
    intro k hk
    have he := Array.getElem_mem hk
    generalize oj.after[k] = ed at he
    intro hcon
    simp only [Bool.and_eq_true, Bool.or_eq_true, beq_iff_eq] at hcon
    obtain ⟨hb, hor⟩ := hcon
    have hl := hall ed he hb
    rcases hor with h1 | h1
    · rw [h1, hi] at hl; cases hl
    · cases ho : ops[ed.on]? with
      | none => cases f <;> simp [depB, ho] at h1
      | some o' =>
        have := ih ed.on o' ho (hc ed.on o' ho hl)
        rw [this] at h1
        cases h1
theorem Closed.start : Closed ops (Array.replicate ops.size false) := by
  intro j oj hj hl
  rw [Array.getD_eq_getD_getElem?, Array.getElem?_replicate] at hl
  split at hl <;> cases hl
theorem Closed.set {listed : Array Bool} (hc : Closed ops listed) {i : Nat} (hi : i ∈ Region.ready .any ops listed) : Closed ops (listed.setIfInBounds i true) := by
  intro j oj hj hl e he hb
  by_cases hij : i = j
  · subst hij
    obtain ⟨_, o, ho, hall⟩ := mem_ready.1 hi
    rw [hj] at ho
    cases ho
    exact getD_set_true (hall e he hb)
  · rw [getD_set_ne false hij] at hl
    exact getD_set_true (hc j oj hj hl e he hb)

/-- Every operation that has not come up and does not wait for i is apart from it, and is one of those that at most make blocks. -/
def freeB (ops : Array Oper) (listed : Array Bool) (i : Nat) : Bool :=
  match ops[i]? with
  | none => false
  | some oi => (List.range ops.size).all fun j => j == i || listed.getD j true || depB ops ops.size j i || (match ops[j]? with
      | some oj => oi.apart ops oj && kp oj
      | none => true)
theorem getD_tf {listed : Array Bool} {i : Nat} (h : listed.getD i true = false) : listed.getD i false = false := by
  rw [Array.getD_eq_getD_getElem?] at h ⊢
  cases hx : listed[i]? with
  | none => rfl
  | some b => rw [hx] at h; exact h

variable {N : Act → World → Prop}
/-- An operation that yields v in every world of C may be taken first, where C outlives new blocks. -/
theorem wpAny_firstC {C : World → Prop} (hC : ∀ w w', Grew w w' → C w → C w') {i : Nat} {oi : Oper} {v : Value} (hi : ops[i]? = some oi) (hsel : ∀ (j : Nat) (o : Oper) cs b, ops[j]? = some o → o.op ≠ .select cs b) (hg : oi.guard = none) :
    ∀ (fuel : Nat) (listed : Array Bool) (a : Act) (w : World), Closed ops listed →
      (∀ j oj, ops[j]? = some oj → j ≠ i → listed.getD j true = false → depB ops ops.size j i = false → oi.apart ops oj = true ∧ kp oj = true) →
      i ∈ Region.ready .any ops listed → (∀ w, C w → (execOp a.eval oi).run P w = .ok (.value v) w ∨ ∃ f args, (execOp a.eval oi).run P w = .ok (.enter f args) w ∧ Calls P f args w (fun e w' => e = .returned v ∧ w' = w)) → C w →
      wpAny P .any ops (fun x a w => x = .normal ∧ N a w) fuel (listed.setIfInBounds i true) (a.put oi.dst v) w → wpAny P .any ops (fun x a w => x = .normal ∧ N a w) (fuel + 1) listed a w := by
  intro fuel
  have self : ∀ (fuel : Nat) (listed : Array Bool) (a : Act) (w : World), (∀ w, C w → (execOp a.eval oi).run P w = .ok (.value v) w ∨ ∃ f args, (execOp a.eval oi).run P w = .ok (.enter f args) w ∧ Calls P f args w (fun e w' => e = .returned v ∧ w' = w)) → C w →
      wpAny P .any ops (fun x a w => x = .normal ∧ N a w) fuel (listed.setIfInBounds i true) (a.put oi.dst v) w →
      wpOp P ops (fun x a w => x = .normal ∧ N a w) i (wpAny P .any ops (fun x a w => x = .normal ∧ N a w) fuel (listed.setIfInBounds i true)) a w := by
    intro fuel listed a w hy hw H
    unfold wpOp
    simp only [hi, Region.wanted, hg, if_true]
    left
    unfold Oper.wp
    rcases hy w hw with hv | ⟨f, args, hv, hcl⟩
    · rw [hv]; exact H
    · rw [hv]
      refine Calls.mono hcl fun en w' ⟨he, hw'⟩ => ?_
      subst he; subst hw'
      exact H
  induction fuel with
  | zero =>
    intro listed a w hcl _ hr hy hw H
    refine ⟨fun h => (by rw [h] at hr; cases hr), fun j hj => ?_⟩
    by_cases hji : j = i
    · subst hji; exact self 0 listed a w hy hw H
    · have := ready_mono hj hji
      rw [H.1] at this
      cases this
  | succ fuel ih =>
    intro listed a w hcl hfree hr hy hw H
    refine ⟨fun h => (by rw [h] at hr; cases hr), fun j hj => ?_⟩
    by_cases hji : j = i
    · subst hji; exact self (fuel + 1) listed a w hy hw H
    · have h1 := H.2 j (ready_mono hj hji)
      obtain ⟨hjun, oj, hoj, hall⟩ := mem_ready.1 hj
      have hiun := (mem_ready.1 hr).1
      have hnd : depB ops ops.size j i = false := dep_not hcl (getD_tf hiun) _ j oj hoj hall
      obtain ⟨hap, hk⟩ := hfree j oj hoj hji hjun hnd
      obtain ⟨p1, p2, p3⟩ := Oper.apart_spec hap
      have hfree' : ∀ k ok, ops[k]? = some ok → k ≠ i → (listed.setIfInBounds j true).getD k true = false →
          depB ops ops.size k i = false → oi.apart ops ok = true ∧ kp ok = true := fun k ok hk hki hun hno => by
        refine hfree k ok hk hki ?_ hno
        by_cases hjk : j = k
        · subst hjk; exact hjun
        · rw [getD_set_ne true hjk] at hun; exact hun
      have step : ∀ (u : Value) (w' : World), Grew w w' → wpAny P .any ops (fun x a w => x = .normal ∧ N a w) fuel ((listed.setIfInBounds i true).setIfInBounds j true) ((a.put oi.dst v).put oj.dst u) w' →
          wpAny P .any ops (fun x a w => x = .normal ∧ N a w) (fuel + 1) (listed.setIfInBounds j true) (a.put oj.dst u) w' := by
        intro u w' hgr h3
        have hex : execOp (a.put oj.dst u).eval oi = execOp a.eval oi := execOp_put oi (fun cs b => hsel i oi cs b hi) a oj.dst u p3
        refine ih (listed.setIfInBounds j true) (a.put oj.dst u) w' (hcl.set hj) hfree' (ready_mono hr (Ne.symm hji)) (fun w2 hw2 => by rw [hex]; exact hy w2 hw2) (hC _ _ hgr hw) ?_
        rw [Array.setIfInBounds_comm _ _ hji, ← Act.put_comm a v u p2]
        exact h3
      unfold wpOp at h1 ⊢
      simp only [hoj] at h1 ⊢
      rw [wanted_put oj a oi.dst v p1] at h1
      split
      · rename_i hwt
        rw [if_pos hwt] at h1
        rcases h1 with h1 | ⟨_, _, _, hbad, _⟩
        case inr => cases hbad
        left
        unfold Oper.wp at h1 ⊢
        rw [execOp_put oj (fun cs b => hsel j oj cs b hoj) a oi.dst v p1] at h1
        obtain ⟨s, hs, hgs⟩ := kp_spec hk a.eval
        rw [hs] at h1 ⊢
        simp only [Sem.run_bind] at h1 ⊢
        cases hrun : s.run P w with
        | ok u w' =>
          rw [hrun] at h1
          exact step u w' (grows_run s w hgs u w' hrun) h1
        | halt x w' =>
          rw [hrun] at h1
          cases x <;> simp only [Result.andThen, Oper.upon] at h1
          case panic => cases h1.1
      · rename_i hwt
        rw [if_neg hwt] at h1
        exact step undef w (Grew.refl _) h1
theorem freeB_spec {i : Nat} {oi : Oper} {listed : Array Bool} (hi : ops[i]? = some oi) (h : freeB ops listed i = true) (j : Nat) (oj : Oper)
    (hj : ops[j]? = some oj) (hne : j ≠ i) (hun : listed.getD j true = false) (hno : depB ops ops.size j i = false) : oi.apart ops oj = true ∧ kp oj = true := by
  simp only [freeB, hi, List.all_eq_true, List.mem_range] at h
  have h1 := h j (Array.getElem?_eq_some_iff.1 hj).1
  simp only [hj, Bool.or_eq_true, beq_iff_eq, hne, false_or, hun, Bool.false_eq_true, hno, Bool.and_eq_true] at h1
  exact h1

/-! The same on frames as functions. -/
variable {n : Nat} {M : Env → World → Prop} {e : Env} {w : World}
def NA (n : Nat) (M : Env → World → Prop) : Act → World → Prop := fun a w => ∃ e, Rep n a e ∧ M e w
/-- Whatever order is picked from here on (listed: what has come up). -/
def WA (P : Program) (n : Nat) (ops : Array Oper) (M : Env → World → Prop) (fuel : Nat) (listed : Array Bool) (e : Env) (w : World) : Prop :=
  Closed ops listed → ∀ a, Rep n a e → wpAny P .any ops (fun x a w => x = .normal ∧ NA n M a w) fuel listed a w
theorem W_draw {id : Nat} {l : List Oper} {Q : Exit → Env → World → Prop} (hm : P.follows .mixedOrders = true) (h : WA P n l.toArray (fun e w => Q .normal e w) l.length (Array.replicate l.length false) e (dr w)) :
    W P n (.region id l.toArray true) Q e w := fun a ha => by
  refine Go.wp_mono (Q := fun x a w => x = .normal ∧ NA n (fun e w => Q .normal e w) a w) (wp_region_any hm ?_) ?_
  · have := h (by have := Closed.start (ops := l.toArray); simpa using this) a ha
    have hl : l.toArray.size = l.length := by simp
    rw [hl]
    exact this
  · rintro x a' w' ⟨rfl, e', hr, hq⟩
    exact ⟨e', hr, hq⟩
theorem WA_done {fuel : Nat} {listed : Array Bool} (hr : Region.ready .any ops listed = []) (h : M e w) : WA P n ops M fuel listed e w :=
  fun _ _ ha => wpAny_done hr ⟨rfl, e, ha, h⟩ fuel
/-- The only one that may come up now. -/
theorem WA_one {fuel i : Nat} {listed listed' : Array Bool} {o : Oper} {v : Value} {w' : World} (hr : Region.ready .any ops listed = [i]) (ho : ops[i]? = some o) (hl : listed.setIfInBounds i true = listed') (hg : o.guard = none)
    (hrun : (execOp (ev e) o).run P w = .ok (.value v) w') (hd : okD n o.dst = true) (h : WA P n ops M fuel listed' (updo e o.dst v) w') : WA P n ops M (fuel + 1) listed e w := fun hcl a ha => by
  subst hl
  refine wpAny_all hr (by simp) fun j hj => ?_
  obtain rfl : j = i := by simpa using hj
  have hcl' := hcl.set (i := j) (by rw [hr]; exact hj)
  unfold wpOp
  simp only [ho, Region.wanted, hg, if_true]
  left
  unfold Oper.wp
  rw [ha.eval, hrun]
  exact h hcl' _ (ha.put (okD_lt hd) v)
theorem WA_oneS {fuel i : Nat} {listed listed' : Array Bool} {o : Oper} {w' : World} (hr : Region.ready .any ops listed = [i]) (ho : ops[i]? = some o) (hl : listed.setIfInBounds i true = listed') (hg : o.guard = none)
    (hrun : (execOp (ev e) o).run P w = .ok .skip w') (hd : okD n o.dst = true) (h : WA P n ops M fuel listed' (updo e o.dst undef) w') : WA P n ops M (fuel + 1) listed e w := fun hcl a ha => by
  subst hl
  refine wpAny_all hr (by simp) fun j hj => ?_
  obtain rfl : j = i := by simpa using hj
  have hcl' := hcl.set (i := j) (by rw [hr]; exact hj)
  unfold wpOp
  simp only [ho, Region.wanted, hg, if_true]
  left
  unfold Oper.wp
  rw [ha.eval, hrun]
  exact h hcl' _ (ha.put (okD_lt hd) undef)
/-- The only one that may come up now, a call. -/
theorem WA_oneC {fuel i : Nat} {listed listed' : Array Bool} {o : Oper} {f : FuncId} {args : Array Value} {w0 : World} (hr : Region.ready .any ops listed = [i]) (ho : ops[i]? = some o) (hl : listed.setIfInBounds i true = listed') (hg : o.guard = none)
    (hrun : (execOp (ev e) o).run P w = .ok (.enter f args) w0) (hd : okD n o.dst = true) (h : Ret P f args w0 fun v w' => WA P n ops M fuel listed' (updo e o.dst v) w') : WA P n ops M (fuel + 1) listed e w := fun hcl a ha => by
  subst hl
  refine wpAny_all hr (by simp) fun j hj => ?_
  obtain rfl : j = i := by simpa using hj
  have hcl' := hcl.set (i := j) (by rw [hr]; exact hj)
  unfold wpOp
  simp only [ho, Region.wanted, hg, if_true]
  left
  unfold Oper.wp
  rw [ha.eval, hrun]
  refine Calls.mono h fun en w' ⟨v, he, h'⟩ => ?_
  subst he
  exact h' hcl' _ (ha.put (okD_lt hd) v)
/-- Whatever the world, it yields v: it may be taken first. -/
theorem WA_pure {fuel i : Nat} {listed listed' : Array Bool} {o : Oper} {v : Value} (hs : Region.noSelect ops = true) (hf : Region.free .any ops listed i = true) (hr : (Region.ready .any ops listed).contains i = true) (ho : ops[i]? = some o)
    (hl : listed.setIfInBounds i true = listed') (hg : o.guard = none) (hrun : ∀ w, (execOp (ev e) o).run P w = .ok (.value v) w) (hd : okD n o.dst = true) (h : WA P n ops M fuel listed' (updo e o.dst v) w) : WA P n ops M (fuel + 1) listed e w := fun hcl a ha => by
  subst hl
  have hcl' := hcl.set (i := i) (by simpa using hr)
  refine wpAny_take ho hs hf hr (fun c a w hq => by cases hq.1) (.inl ⟨by simp [Region.wanted, hg], fun w => by rw [ha.eval]; exact hrun w⟩) (h hcl' _ (ha.put (okD_lt hd) v))
/-- In every world that differs by new blocks alone it yields v: it may be taken first. -/
theorem WA_still {fuel i : Nat} {listed listed' : Array Bool} {o : Oper} {v : Value} (hs : Region.noSelect ops = true) (hf : freeB ops listed i = true) (hr : (Region.ready .any ops listed).contains i = true) (ho : ops[i]? = some o)
    (hl : listed.setIfInBounds i true = listed') (hg : o.guard = none) (hrun : ∀ w', Grew w w' → (execOp (ev e) o).run P w' = .ok (.value v) w') (hd : okD n o.dst = true) (h : WA P n ops M fuel listed' (updo e o.dst v) w) : WA P n ops M (fuel + 1) listed e w := fun hcl a ha => by
  subst hl
  have hcl' := hcl.set (i := i) (by simpa using hr)
  exact wpAny_firstC (C := Grew w) (fun _ _ h1 h2 => h2.trans h1) ho (Region.noSelect_spec hs) hg fuel listed a w hcl (freeB_spec ho hf) (by simpa using hr) (fun w' hw' => .inl (by rw [ha.eval]; exact hrun w' hw')) (Grew.refl w) (h hcl' _ (ha.put (okD_lt hd) v))
/-- A call that leaves the world as it was. -/
theorem WA_stillC {fuel i : Nat} {listed listed' : Array Bool} {o : Oper} {f : FuncId} {args : Array Value} {v : Value} (hs : Region.noSelect ops = true) (hf : freeB ops listed i = true) (hr : (Region.ready .any ops listed).contains i = true) (ho : ops[i]? = some o)
    (hl : listed.setIfInBounds i true = listed') (hg : o.guard = none) (hrun : ∀ w', (execOp (ev e) o).run P w' = .ok (.enter f args) w') (hcall : ∀ w', Grew w w' → Ret P f args w' fun u w'' => u = v ∧ w' = w'') (hd : okD n o.dst = true) (h : WA P n ops M fuel listed' (updo e o.dst v) w) : WA P n ops M (fuel + 1) listed e w := fun hcl a ha => by
  subst hl
  have hcl' := hcl.set (i := i) (by simpa using hr)
  exact wpAny_firstC (C := Grew w) (fun _ _ h1 h2 => h2.trans h1) ho (Region.noSelect_spec hs) hg fuel listed a w hcl (freeB_spec ho hf) (by simpa using hr)
    (fun w' hw' => .inr ⟨f, args, by rw [ha.eval]; exact hrun w', Calls.mono (hcall w' hw') fun en w'' ⟨u, he, hu, hw''⟩ => ⟨by rw [he, hu], hw''.symm⟩⟩) (Grew.refl w) (h hcl' _ (ha.put (okD_lt hd) v))

/-! Regions all of whose operations leave a class of worlds: the order of the text serves for all. -/
def WQ (P : Program) (n : Nat) (ops : Array Oper) (C : World → Prop) (M : Env → Prop) (l : List Oper) (e : Env) : Prop :=
  ∀ a, Rep n a e → wpQuiet P ops C (fun a' => ∃ e', Rep n a' e' ∧ M e') l a
variable {C : World → Prop} {MQ : Env → Prop} {rest : List Oper}
theorem W_quiet {id : Nat} {l : List Oper} {Q : Exit → Env → World → Prop} (C : World → Prop) (hm : P.follows .mixedOrders = true) (hB : Region.lexB .any l.toArray = true) (hC : C (dr w))
    (h : WQ P n l.toArray C (fun e' => ∀ w', C w' → Q .normal e' w') l e) : W P n (.region id l.toArray true) Q e w := fun a ha => by
  refine wp_region_quiet (C := C) hm hB hC ?_
  have key : ∀ (l' : List Oper) (a : Act), wpQuiet P l.toArray C (fun a' => ∃ e', Rep n a' e' ∧ ∀ w', C w' → Q .normal e' w') l' a → wpQuiet P l.toArray C (fun a' => ∀ w', C w' → lft n Q .normal a' w') l' a := by
    intro l'
    induction l' with
    | nil => rintro a ⟨e', hr, hq⟩ w' hw'; exact ⟨e', hr, hq w' hw'⟩
    | cons o l' ih =>
      intro a hq
      unfold wpQuiet at hq ⊢
      split
      · rename_i hw; rw [if_pos hw] at hq; exact Oper.quiet_mono ih hq
      · rename_i hw; rw [if_neg hw] at hq; exact ih _ hq
  exact key _ _ (h a ha)
theorem WQ_nil (h : MQ e) : WQ P n ops C MQ [] e := fun _ ha => wpQuiet_nil ⟨e, ha, h⟩
theorem WQ_val {o : Oper} {v : Value} (hg : o.guard = none) (hrun : ∀ w, C w → (execOp (ev e) o).run P w = .ok (.value v) w) (hd : okD n o.dst = true) (h : WQ P n ops C MQ rest (updo e o.dst v)) : WQ P n ops C MQ (o :: rest) e := fun a ha => by
  unfold wpQuiet
  rw [if_pos (by simp [Region.wanted, hg])]
  refine ⟨v, fun w hw => ?_, h _ (ha.put (okD_lt hd) v)⟩
  unfold Oper.quietAt
  rw [ha.eval, hrun w hw]
  exact ⟨rfl, rfl⟩
theorem WQ_call {o : Oper} {f : FuncId} {args : Array Value} {v : Value} (hg : o.guard = none) (hrun : ∀ w, (execOp (ev e) o).run P w = .ok (.enter f args) w) (hc : ∀ w, C w → Ret P f args w fun u w' => u = v ∧ C w') (hd : okD n o.dst = true)
    (h : WQ P n ops C MQ rest (updo e o.dst v)) : WQ P n ops C MQ (o :: rest) e := fun a ha => by
  unfold wpQuiet
  rw [if_pos (by simp [Region.wanted, hg])]
  refine ⟨v, fun w hw => ?_, h _ (ha.put (okD_lt hd) v)⟩
  unfold Oper.quietAt
  rw [ha.eval, hrun w]
  exact ⟨rfl, Calls.mono (hc w hw) fun en w'' ⟨u, he, hu, hw''⟩ => ⟨by rw [he, hu], hw''⟩⟩
theorem WQ_valG {o : Oper} {j : Nat} {b : Bool} {v : Value} (hg : o.guard = some (j, b)) (hy : yl ops e j = some b) (hrun : ∀ w, C w → (execOp (ev e) o).run P w = .ok (.value v) w) (hd : okD n o.dst = true) (h : WQ P n ops C MQ rest (updo e o.dst v)) : WQ P n ops C MQ (o :: rest) e := fun a ha => by
  unfold wpQuiet
  rw [if_pos (by simp [Region.wanted, hg, ha.yielded, hy])]
  refine ⟨v, fun w hw => ?_, h _ (ha.put (okD_lt hd) v)⟩
  unfold Oper.quietAt
  rw [ha.eval, hrun w hw]
  exact ⟨rfl, rfl⟩
theorem WQ_callG {o : Oper} {j : Nat} {b : Bool} {f : FuncId} {args : Array Value} {v : Value} (hg : o.guard = some (j, b)) (hy : yl ops e j = some b) (hrun : ∀ w, (execOp (ev e) o).run P w = .ok (.enter f args) w) (hc : ∀ w, C w → Ret P f args w fun u w' => u = v ∧ C w') (hd : okD n o.dst = true)
    (h : WQ P n ops C MQ rest (updo e o.dst v)) : WQ P n ops C MQ (o :: rest) e := fun a ha => by
  unfold wpQuiet
  rw [if_pos (by simp [Region.wanted, hg, ha.yielded, hy])]
  refine ⟨v, fun w hw => ?_, h _ (ha.put (okD_lt hd) v)⟩
  unfold Oper.quietAt
  rw [ha.eval, hrun w]
  exact ⟨rfl, Calls.mono (hc w hw) fun en w'' ⟨u, he, hu, hw''⟩ => ⟨by rw [he, hu], hw''⟩⟩
theorem WQ_skipG {o : Oper} {j : Nat} {b b' : Bool} (hg : o.guard = some (j, b)) (hy : yl ops e j = some b') (hb : b' ≠ b) (hd : okD n o.dst = true) (h : WQ P n ops C MQ rest (updo e o.dst undef)) : WQ P n ops C MQ (o :: rest) e := fun a ha => by
  unfold wpQuiet
  rw [if_neg (by simp [Region.wanted, hg, ha.yielded, hy, hb])]
  exact h _ (ha.put (okD_lt hd) undef)
/-- Behind a guard that was passed over (its slot holds nothing): passed over too. -/
theorem WQ_skipU {o : Oper} {j : Nat} {b : Bool} (hg : o.guard = some (j, b)) (hy : yl ops e j = none) (hd : okD n o.dst = true) (h : WQ P n ops C MQ rest (updo e o.dst undef)) : WQ P n ops C MQ (o :: rest) e := fun a ha => by
  unfold wpQuiet
  rw [if_neg (by simp [Region.wanted, hg, ha.yielded, hy])]
  exact h _ (ha.put (okD_lt hd) undef)
end
end Go.EC
