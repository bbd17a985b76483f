/-
  Operations on whole structs, new slices, type tests; stores that change a block.
-/
import Derived.Test.YtcdhbfhijkdfoaaEz
import Derived.KernelRfl
namespace Go.EC
open Go.RowKit
section
variable {P : Program} {e : Env} {w : World} {d : Option Nat} {ty : TypeId} {pos : String} {af : Array Edge} {g : Option (Nat × Bool)}
theorem wrap64 {z : Int} (h0 : -9223372036854775808 ≤ z) (h1 : z ≤ 9223372036854775807) : IntKind.i64.wrap z = z := by
  unfold IntKind.wrap
  simp only [IntKind.bits, IntKind.signed, Bool.true_and]
  split <;> simp_all <;> omega
theorem x_build {t : TypeId} {parts : Array (Nat × Operand)} {qs : List (Nat × Value)} {v : Value} (hq : parts.toList.map (fun p => (p.1, ev e p.2)) = qs) (h : ∀ w, (Instr.build t qs.toArray).run P w = .ok v w) :
    (execOp (ev e) ⟨d, .build t parts, ty, pos, af, g⟩).run P w = .ok (.value v) w := by
  subst hq
  simp only [execOp, Sem.run_bind]
  have : (fun (x : Nat × Operand) => match x with | (i, x) => (i, ev e x)) = fun p => (p.1, ev e p.2) := rfl
  have h2 : parts.map (fun p => (p.1, ev e p.2)) = (parts.toList.map (fun p => (p.1, ev e p.2))).toArray := by rw [← Array.toList_map]
  rw [this, h2, h]; rfl
theorem x_neq_bool {t t' : TypeId} {x y : Operand} {a b : Bool} (hu : P.underlying t = some .bool) (hx : ev e x = .bool a) (hy : ev e y = .bool b) :
    (execOp (ev e) ⟨d, .binOp .neq t x y t', ty, pos, af, g⟩).run P w = .ok (.value (.bool (a != b))) w := by
  have hgd : (eqGuard .neq t x y (.bool a) (.bool b)).run P w = .ok () w := by
    unfold eqGuard; split <;> rfl
  have h : ∀ d : Nat, (Op.equalIn (d + 1) t (.bool a) (.bool b)).run P w = .ok (a == b) w := fun d => by simp [Op.equalIn, run_underlying hu]
  simp only [execOp, hx, hy, Sem.run_bind, hgd, Result.andThen_ok, binOp]
  simp [Op.equal, Op.maxDepth, h 9999]
  cases a <;> cases b <;> rfl
theorem x_tassert {x : Operand} {xt at_ : TypeId} {ok : Bool} {v u : Value} (hx : ev e x = v) (h : ∀ w, (Instr.typeAssert v xt at_ ok).run P w = .ok u w) :
    (execOp (ev e) ⟨d, .typeAssert x xt at_ ok, ty, pos, af, g⟩).run P w = .ok (.value u) w := by
  subst hx
  simp only [execOp, Sem.run_bind, h]; rfl
theorem x_max {x y : Operand} {k k' : IntKind} {a b m : Int} {ts : Array TypeId} (hx : ev e x = .int k a) (hy : ev e y = .int k' b) (hm : (if b > a then b else a) = m) :
    (execOp (ev e) ⟨d, .call { callee := .builtin .max, args := #[x, y], argTypes := ts }, ty, pos, af, g⟩).run P w = .ok (.value (.int k m)) w := by
  subst hm; simp [execOp, hx, hy, resolve, invoke, builtin, Builtin.max_, Builtin.max2]
theorem mkRow (n : Nat) (z : Value) : (Array.range n).map (fun i => (#[z] : Array Value)[i % (#[z] : Array Value).size]!) = (List.replicate n z).toArray := by
  apply Array.ext
  · simp
  · intro i h1 h2
    have : i % 1 = 0 := Nat.mod_one i
    simp [this]
theorem x_mkslice {t te : TypeId} {x y : Operand} {k k' : IntKind} {n : Nat} {z : Value} (hu : P.underlying t = some (.slice te)) (hs : ∀ w, (sizeOf te).run P w = .ok 1 w) (hb : ∃ i, P.info? te = some i ∧ i.bytes = 1) (hz : ∀ w, (zeroValue te).run P w = .ok z w) (hc : z.cells = #[z])
    (hx : ev e x = .int k (n : Int)) (hy : ev e y = .int k' (n : Int)) (h0 : 0 < n) (hn : n ≤ 2147483648) :
    (execOp (ev e) ⟨d, .makeSlice t x y, ty, pos, af, g⟩).run P w = .ok (.value (.slice (some ⟨w.heap.size, 0, none⟩) n n)) (w.alloc (.cells (List.replicate n z).toArray te)) := by
  obtain ⟨i, hi, hbi⟩ := hb
  have hti : ∀ w, (typeInfo te).run P w = .ok i w := fun w => by simp [typeInfo, Sem.run_bind, hi]
  have hw : IntKind.i64.wrap (n : Int) = (n : Int) := wrap64 (by omega) (by omega)
  have h48 : ¬ ((n : Int) < 0) := by omega
  have hr : ¬ (n * 1 > roomBytes) := by unfold roomBytes; omega
  have hbig : ¬ ((2:Int) ^ 48 < (n : Int)) := by omega
  have hcond : (decide ((n : Int) < 0) || decide (((1 : Nat) : Int) * (n : Int) > 2 ^ 48) || decide ((n : Int) < 0) || decide ((n : Int) > (n : Int))) = false := by
    simp; omega
  have hn0 : ¬ (n * 1 = 0) := by omega
  simp only [execOp, hx, hy, Instr.makeSlice, Sem.run_bind, run_underlying hu, Result.andThen_ok, asInt, asIntOf, Sem.run_pure, hti, hbi, hw, hcond, Bool.false_eq_true, if_false, Int.toNat_natCast, askRoom, hr, hs, hn0, hz, hc, newRow, newObj]
  rw [mkRow]
  simp only [Nat.mul_one]
  rfl
theorem sizeOf_run {t : TypeId} {n : Nat} (h : ∃ i, P.info? t = some i ∧ i.size = n) (w : World) : (sizeOf t).run P w = .ok n w := by
  obtain ⟨i, hi, hn⟩ := h
  simp [sizeOf, typeInfo, Sem.run_bind, hi, hn]
theorem splice_all {cs vs : List Value} (h : vs.length = cs.length) : splice cs 0 vs = vs := by
  unfold splice; rw [h]; simp
/-- A whole struct stored into its variable. -/
theorem x_storeA {t : TypeId} {x y : Operand} {gg : Nat} {cs vs : List Value} (hs : ∀ w, (sizeOf t).run P w = .ok cs.length w) (hx : ev e x = .pointer (some ⟨gg, 0, none⟩)) (hy : ev e y = .agg vs.toArray) (hb : Blk w gg t cs) (hl : vs.length = cs.length) (h1 : ∀ v ∈ vs, v.oneCell' = true) :
    ∃ w', (execOp (ev e) ⟨d, .store t x y, ty, pos, af, g⟩).run P w = .ok .skip w' ∧ Blk w' gg t vs ∧ Only (· = gg) w w' := by
  obtain ⟨w', hr, hb', ho⟩ := storeCells_run (P := P) vs w cs 0 0 hb (by omega) h1
  refine ⟨w', ?_, ?_, ho⟩
  · simp only [execOp, hx, hy, Instr.storeAt, Instr.sureAddr, storeVar, Value.cells, Sem.run_bind, Sem.run_pure, Result.andThen_ok, hs, List.size_toArray, hl, ne_eq, not_true_eq_false, if_false, hr]
  · rw [splice_all hl] at hb'; exact hb'
theorem x_loadA {t : TypeId} {fs : Array Field} {x : Operand} {gg : Nat} {cs : List Value} (hu : P.underlying t = some (.struct fs)) (hs : ∀ w, (sizeOf t).run P w = .ok cs.length w) (hx : ev e x = .pointer (some ⟨gg, 0, none⟩)) (hb : Blk w gg t cs) :
    (execOp (ev e) ⟨d, .load t x, ty, pos, af, g⟩).run P w = .ok (.value (.agg cs.toArray)) w := by
  have hl := loadCellsFrom_run (P := P) cs.length w gg 0 0 #[] cs rfl (fun j v hv => hb.cell _ (by simpa using hv))
  simp [execOp, hx, Instr.loadAt, Instr.sureAddr, loadVar, isAgg, run_underlying hu, loadCells, hs, hl]
theorem SE {n : Nat} {ops : Array Oper} {rest : List Oper} {op : Op} {R : World → Prop} {Q : Exit → Env → World → Prop} (hex : ∃ w', (execOp (ev e) ⟨none, op, ty, pos, af, none⟩).run P w = .ok .skip w' ∧ R w') (h : ∀ w', R w' → WL P n ops Q rest e w') :
    WL P n ops Q (⟨none, op, ty, pos, af, none⟩ :: rest) e w := by
  obtain ⟨w', hrun, hR⟩ := hex
  exact S hrun (h w' hR)
theorem D_oneSE {n : Nat} {ops : Array Oper} {op : Op} {M : Env → World → Prop} {fuel i : Nat} {listed listed' : Array Bool} {R : World → Prop} (hr : Region.ready .any ops listed = [i]) (ho : ops[i]? = some ⟨none, op, ty, pos, af, none⟩) (hl : listed.setIfInBounds i true = listed')
    (hex : ∃ w', (execOp (ev e) ⟨none, op, ty, pos, af, none⟩).run P w = .ok .skip w' ∧ R w') (h : ∀ w', R w' → WA P n ops M fuel listed' e w') : WA P n ops M (fuel + 1) listed e w := by
  obtain ⟨w', hrun, hR⟩ := hex
  exact D_oneS hr ho hl hrun (h w' hR)
/-- A result that lies in a variable of its own: a struct. -/
theorem bodyE_cell {fn : Func} {a : Tmp} {t : TypeId} {fs : Array Field} {R : Value → World → Prop} {gg : Nat} {cs : List Value} (hfn : fn.results = #[.cell a t]) (hu : P.underlying t = some (.struct fs)) (hs : ∀ w, (sizeOf t).run P w = .ok cs.length w)
    (ha : e a = .pointer (some ⟨gg, 0, none⟩)) (hb : Blk w gg t cs) (h : R (.agg cs.toArray) w) : bodyE P fn R .ret e w := by
  have hl := loadCellsFrom_run (P := P) cs.length w gg 0 0 #[] cs rfl (fun j v hv => hb.cell _ (by simpa using hv))
  refine ⟨_, fun tmps ht => ?_, h⟩
  have h2 := ht a
  rw [ha, Array.getD_eq_getD_getElem?] at h2
  simp [results, hfn, h2, asAddr, loadVar, isAgg, run_underlying hu, loadCells, hs, hl]
end
end Go.EC
