/-
  Single operations in the calculus of frames as functions: what each yields. No program in sight.
-/
import Derived.Test.YtcdhbfhijkdfoaaEc
import Derived.Laws.AppendOwn
namespace Go.EC
open Go.RowKit
section
variable {P : Program} {e : Env} {w : World} {d : Option Nat} {ty : TypeId} {pos : String} {af : Array Edge} {g : Option (Nat × Bool)}

theorem x_move {x : Operand} {v : Value} (hx : ev e x = v) : (execOp (ev e) ⟨d, .move x, ty, pos, af, g⟩).run P w = .ok (.value v) w := by
  subst hx; rfl
theorem x_assign {x : Operand} {v : Value} (hx : ev e x = v) : (execOp (ev e) ⟨d, .assign x, ty, pos, af, g⟩).run P w = .ok (.value v) w := by
  subst hx; rfl
theorem x_pick_t {c x y : Operand} {v : Value} (hc : ev e c = .bool true) (hx : ev e x = v) : (execOp (ev e) ⟨d, .pick c x y, ty, pos, af, g⟩).run P w = .ok (.value v) w := by
  subst hx; simp only [execOp, hc]; rfl
theorem x_pick_f {c x y : Operand} {v : Value} (hc : ev e c = .bool false) (hy : ev e y = v) : (execOp (ev e) ⟨d, .pick c x y, ty, pos, af, g⟩).run P w = .ok (.value v) w := by
  subst hy; simp only [execOp, hc]; rfl
/-- 'a && b' behind a guard: b's slot is read where a is true alone. -/
theorem x_pick_and {c y : Operand} {b b' : Bool} (hc : ev e c = .bool b) (hy : b = true → ev e y = .bool b') : (execOp (ev e) ⟨d, .pick c y (.const (.bool false)), ty, pos, af, g⟩).run P w = .ok (.value (.bool (b && b'))) w := by
  cases b
  · exact x_pick_f hc rfl
  · exact x_pick_t hc (hy rfl)
theorem x_nilc {x : Operand} {p : Addr} (hx : ev e x = .pointer (some p)) : (execOp (ev e) ⟨d, .nilCheck x, ty, pos, af, g⟩).run P w = .ok (.value (.pointer (some p))) w := by
  simp only [execOp, hx]; rfl
theorem x_field {s : TypeId} {x : Operand} {f : Nat} {gg o k : Nat} (hfa : ∀ (a : Addr) (w : World), (Instr.fieldAt s (.pointer (some a)) f).run P w = .ok (.pointer (some (a.add k))) w)
    (hx : ev e x = .pointer (some ⟨gg, o, none⟩)) : (execOp (ev e) ⟨d, .fieldAddr s x f, ty, pos, af, g⟩).run P w = .ok (.value (.pointer (some ⟨gg, o + k, none⟩))) w := by
  have : Addr.add ⟨gg, o, none⟩ k = ⟨gg, o + k, none⟩ := by unfold Addr.add; split <;> simp_all
  simp only [execOp, hx, Sem.run_bind, hfa, this]; rfl
theorem x_field0 {s : TypeId} {x : Operand} {f : Nat} {gg k : Nat} (hfa : ∀ (a : Addr) (w : World), (Instr.fieldAt s (.pointer (some a)) f).run P w = .ok (.pointer (some (a.add k))) w)
    (hx : ev e x = .pointer (some ⟨gg, 0, none⟩)) : (execOp (ev e) ⟨d, .fieldAddr s x f, ty, pos, af, g⟩).run P w = .ok (.value (.pointer (some ⟨gg, k, none⟩))) w := by
  have := x_field (d := d) (ty := ty) (pos := pos) (af := af) (g := g) (w := w) hfa hx
  rwa [Nat.zero_add] at this
theorem x_load {t : TypeId} {x : Operand} {p : Addr} {v : Value} (ht : ∀ (a : Addr) (w : World) (u : Value), w.cell? a = some u → (Instr.loadAt t (.pointer (some a))).run P w = .ok u w)
    (hx : ev e x = .pointer (some p)) (hc : w.cell? p = some v) : (execOp (ev e) ⟨d, .load t x, ty, pos, af, g⟩).run P w = .ok (.value v) w := by
  simp only [execOp, hx, Sem.run_bind, ht p w v hc]; rfl
theorem x_store {t : TypeId} {x y : Operand} {p : Addr} {v u : Value} (ht : ∀ (a : Addr) (w : World) (u v : Value), w.cell? a = some u → w.frozen? a = false → v.oneCell' = true → (Instr.storeAt t (.pointer (some a)) v).run P w = .ok () (w.setCell a v))
    (hx : ev e x = .pointer (some p)) (hy : ev e y = v) (h1 : v.oneCell' = true) (hc : w.cell? p = some u) (hf : w.frozen? p = false) : (execOp (ev e) ⟨d, .store t x y, ty, pos, af, g⟩).run P w = .ok .skip (w.setCell p v) := by
  simp only [execOp, hx, hy, Sem.run_bind, ht p w u v hc hf h1]; rfl
theorem x_not {t : TypeId} {x : Operand} {b : Bool} (hx : ev e x = .bool b) : (execOp (ev e) ⟨d, .unOp .not t x, ty, pos, af, g⟩).run P w = .ok (.value (.bool !b)) w := by
  simp only [execOp, hx]; rfl
theorem x_extract {x : Operand} {vs : Array Value} {i : Nat} {v : Value} (hx : ev e x = .tuple vs) (hv : vs[i]? = some v) : (execOp (ev e) ⟨d, .extract x i, ty, pos, af, g⟩).run P w = .ok (.value v) w := by
  simp only [execOp, hx, Instr.extract, hv]; rfl

/-- int's arithmetic and comparisons. -/
def ibin (op : BinOp) (k : IntKind) (a b : Int) : Option Value :=
  match op with
  | .add => some (.int k (k.wrap (a + b)))
  | .sub => some (.int k (k.wrap (a - b)))
  | .mul => some (.int k (k.wrap (a * b)))
  | .eql => some (.bool (a == b))
  | .neq => some (.bool (a != b))
  | .lss => some (.bool (decide (a < b)))
  | .leq => some (.bool (decide (a ≤ b)))
  | .gtr => some (.bool (decide (a > b)))
  | .geq => some (.bool (decide (a ≥ b)))
  | .quo => if b = 0 then none else some (.int k (k.wrap (a.tdiv b)))
  | .rem => if b = 0 then none else some (.int k (a.tmod b))
  | .shr => if b < 0 then none else some (.int k (a.fdiv (2 ^ min b.toNat k.bits)))
  | .shl => if b < 0 then none else some (.int k (k.wrap (a * 2 ^ min b.toNat k.bits)))
  | .and => some (.int k (k.wrap (BitVec.ofInt k.bits a &&& BitVec.ofInt k.bits b).toNat))
  | .or => some (.int k (k.wrap (BitVec.ofInt k.bits a ||| BitVec.ofInt k.bits b).toNat))
  | _ => none
theorem x_bin {op : BinOp} {t t' : TypeId} {x y : Operand} {k : IntKind} {a b : Int} {v : Value} (hx : ev e x = .int k a) (hy : ev e y = .int k b) (hv : ibin op k a b = some v) :
    (execOp (ev e) ⟨d, .binOp op t x y t', ty, pos, af, g⟩).run P w = .ok (.value v) w := by
  have hgd : (eqGuard op t x y (.int k a) (.int k b)).run P w = .ok () w := by
    unfold eqGuard; split <;> rfl
  simp only [execOp, hx, hy, Sem.run_bind, hgd, Result.andThen_ok]
  cases op <;> simp only [ibin, Option.some.injEq, reduceCtorEq] at hv <;> first | (subst hv; simp [binOp, Op.intArith, Op.intCmp, Op.intBits]; done) | skip
  · split at hv
    · cases hv
    · rename_i h0; injection hv with hv; subst hv; simp [binOp, Op.intDiv, h0]
  · split at hv
    · cases hv
    · rename_i h0; injection hv with hv; subst hv; simp [binOp, Op.intDiv, h0]
  · split at hv
    · cases hv
    · rename_i h0; injection hv with hv; subst hv; simp [binOp, Op.shift, h0]
  · split at hv
    · cases hv
    · rename_i h0; injection hv with hv; subst hv; simp [binOp, Op.shift, h0]
/-- A shift by a number of another kind. -/
theorem x_shr {t t' : TypeId} {x y : Operand} {k k' : IntKind} {a b : Int} (hx : ev e x = .int k a) (hy : ev e y = .int k' b) (h0 : ¬ b < 0) :
    (execOp (ev e) ⟨d, .binOp .shr t x y t', ty, pos, af, g⟩).run P w = .ok (.value (.int k (a.fdiv (2 ^ min b.toNat k.bits)))) w := by
  have hgd : (eqGuard .shr t x y (.int k a) (.int k' b)).run P w = .ok () w := by
    unfold eqGuard; split <;> rfl
  simp only [execOp, hx, hy, Sem.run_bind, hgd, Result.andThen_ok]
  simp [binOp, Op.shift, h0]
theorem x_len_slice {t : TypeId} {x : Operand} {te : TypeId} {A : Option Addr} {n c : Nat} (hu : P.underlying t = some (.slice te)) (hx : ev e x = .slice A n c) :
    (execOp (ev e) ⟨d, .call { callee := .builtin .len, args := #[x], argTypes := #[t] }, ty, pos, af, g⟩).run P w = .ok (.value (.int .i64 n)) w := by
  simp [execOp, resolve, invoke, builtin, Builtin.len_, hx, run_underlying hu, goInt]
theorem x_cap_slice {t : TypeId} {x : Operand} {te : TypeId} {A : Option Addr} {n c : Nat} (hu : P.underlying t = some (.slice te)) (hx : ev e x = .slice A n c) :
    (execOp (ev e) ⟨d, .call { callee := .builtin .cap, args := #[x], argTypes := #[t] }, ty, pos, af, g⟩).run P w = .ok (.value (.int .i64 c)) w := by
  simp [execOp, resolve, invoke, builtin, Builtin.cap_, hx, run_underlying hu, goInt]
theorem x_len_str {t : TypeId} {x : Operand} {s : ByteArray} (hu : P.underlying t = some .string) (hx : ev e x = .string s) :
    (execOp (ev e) ⟨d, .call { callee := .builtin .len, args := #[x], argTypes := #[t] }, ty, pos, af, g⟩).run P w = .ok (.value (.int .i64 s.size)) w := by
  simp [execOp, resolve, invoke, builtin, Builtin.len_, hx, run_underlying hu, goInt]
theorem x_index {t te : TypeId} {x y : Operand} {k : IntKind} {gg o n c i : Nat} {z : Int} (hu : P.underlying t = some (.slice te)) (hs : ∀ w, (sizeOf te).run P w = .ok 1 w)
    (hx : ev e x = .slice (some ⟨gg, o, none⟩) n c) (hy : ev e y = .int k z) (hz : z = (i : Int)) (hi : i < n) :
    (execOp (ev e) ⟨d, .indexAddr t x y, ty, pos, af, g⟩).run P w = .ok (.value (.pointer (some ⟨gg, o + i, none⟩))) w := by
  subst hz
  have : Addr.add ⟨gg, o, none⟩ i = ⟨gg, o + i, none⟩ := by unfold Addr.add; split <;> simp_all
  have h0 : (0 : Int) ≤ (i : Int) := by omega
  simp [execOp, hx, hy, Instr.indexAt, asIntOf, run_underlying hu, h0, hs, this]
  intro h
  omega
/-- Not a struct, not an array: a value of one cell. -/
def plainT : TypeDesc → Bool
  | .struct _ | .array _ _ => false
  | _ => true
theorem loadAt_one {t : TypeId} {dd : TypeDesc} (hu : P.underlying t = some dd) (hp : plainT dd = true) (a : Addr) (w : World) (u : Value) (hc : w.cell? a = some u) :
    (Instr.loadAt t (.pointer (some a))).run P w = .ok u w := by
  have hag : (isAgg t).run P w = .ok false w := by
    simp only [isAgg, Sem.run_bind, run_underlying hu, Result.andThen_ok]
    cases dd <;> simp_all [plainT]
  simp only [Instr.loadAt, Instr.sureAddr, loadVar, Sem.run_bind, Sem.run_pure, Result.andThen_ok, hag]
  simp [load, Sem.run, hc]
theorem storeAt_one {t : TypeId} (hs : ∀ w, (sizeOf t).run P w = .ok 1 w) (a : Addr) (w : World) (u v : Value) (hc : w.cell? a = some u) (hf : w.frozen? a = false) (h1 : v.oneCell' = true) :
    (Instr.storeAt t (.pointer (some a)) v).run P w = .ok () (w.setCell a v) := by
  cases v <;> simp_all [Instr.storeAt, Instr.sureAddr, storeVar, Value.cells, storeCells, store, Sem.run, Addr.add, Value.oneCell']
/-- Calls of functions with bodies, and of those without. -/
theorem x_call1 {f : FuncId} {a0 : Operand} {v0 : Value} {ts : Array TypeId} (hf : ∀ (xs : Array Value) (w : World), (callFunc f xs).run P w = .ok (.enter f xs) w) (h0 : ev e a0 = v0) :
    (execOp (ev e) ⟨d, .call { callee := .value (.func f), args := #[a0], argTypes := ts }, ty, pos, af, g⟩).run P w = .ok (.enter f #[v0]) w := by
  subst h0
  simp [execOp, resolve, Deferred.ofValue, ev, invoke, hf]
theorem x_ext1 {f : FuncId} {a0 : Operand} {v0 v : Value} {w' : World} {ts : Array TypeId} (h0 : ev e a0 = v0) (hf : (callFunc f #[v0]).run P w = .ok (.value v) w') :
    (execOp (ev e) ⟨d, .call { callee := .value (.func f), args := #[a0], argTypes := ts }, ty, pos, af, g⟩).run P w = .ok (.value v) w' := by
  subst h0
  simp only [execOp, resolve, Deferred.ofValue, invoke, Sem.run_bind]
  simpa [ev] using hf
theorem x_call2 {f : FuncId} {a0 a1 : Operand} {v0 v1 : Value} {ts : Array TypeId} (hf : ∀ (xs : Array Value) (w : World), (callFunc f xs).run P w = .ok (.enter f xs) w) (h0 : ev e a0 = v0) (h1 : ev e a1 = v1) :
    (execOp (ev e) ⟨d, .call { callee := .value (.func f), args := #[a0, a1], argTypes := ts }, ty, pos, af, g⟩).run P w = .ok (.enter f #[v0, v1]) w := by
  subst h0 h1
  simp [execOp, resolve, Deferred.ofValue, ev, invoke, hf]
theorem x_ext2 {f : FuncId} {a0 a1 : Operand} {v0 v1 v : Value} {w' : World} {ts : Array TypeId} (h0 : ev e a0 = v0) (h1 : ev e a1 = v1) (hf : (callFunc f #[v0, v1]).run P w = .ok (.value v) w') :
    (execOp (ev e) ⟨d, .call { callee := .value (.func f), args := #[a0, a1], argTypes := ts }, ty, pos, af, g⟩).run P w = .ok (.value v) w' := by
  subst h0 h1
  simp only [execOp, resolve, Deferred.ofValue, invoke, Sem.run_bind]
  simpa [ev] using hf
theorem x_call3 {f : FuncId} {a0 a1 a2 : Operand} {v0 v1 v2 : Value} {ts : Array TypeId} (hf : ∀ (xs : Array Value) (w : World), (callFunc f xs).run P w = .ok (.enter f xs) w) (h0 : ev e a0 = v0) (h1 : ev e a1 = v1) (h2 : ev e a2 = v2) :
    (execOp (ev e) ⟨d, .call { callee := .value (.func f), args := #[a0, a1, a2], argTypes := ts }, ty, pos, af, g⟩).run P w = .ok (.enter f #[v0, v1, v2]) w := by
  subst h0 h1 h2
  simp [execOp, resolve, Deferred.ofValue, ev, invoke, hf]
theorem x_ext3 {f : FuncId} {a0 a1 a2 : Operand} {v0 v1 v2 v : Value} {w' : World} {ts : Array TypeId} (h0 : ev e a0 = v0) (h1 : ev e a1 = v1) (h2 : ev e a2 = v2) (hf : (callFunc f #[v0, v1, v2]).run P w = .ok (.value v) w') :
    (execOp (ev e) ⟨d, .call { callee := .value (.func f), args := #[a0, a1, a2], argTypes := ts }, ty, pos, af, g⟩).run P w = .ok (.value v) w' := by
  subst h0 h1 h2
  simp only [execOp, resolve, Deferred.ofValue, invoke, Sem.run_bind]
  simpa [ev] using hf
theorem x_call4 {f : FuncId} {a0 a1 a2 a3 : Operand} {v0 v1 v2 v3 : Value} {ts : Array TypeId} (hf : ∀ (xs : Array Value) (w : World), (callFunc f xs).run P w = .ok (.enter f xs) w) (h0 : ev e a0 = v0) (h1 : ev e a1 = v1) (h2 : ev e a2 = v2) (h3 : ev e a3 = v3) :
    (execOp (ev e) ⟨d, .call { callee := .value (.func f), args := #[a0, a1, a2, a3], argTypes := ts }, ty, pos, af, g⟩).run P w = .ok (.enter f #[v0, v1, v2, v3]) w := by
  subst h0 h1 h2 h3
  simp [execOp, resolve, Deferred.ofValue, ev, invoke, hf]
theorem x_ext4 {f : FuncId} {a0 a1 a2 a3 : Operand} {v0 v1 v2 v3 v : Value} {w' : World} {ts : Array TypeId} (h0 : ev e a0 = v0) (h1 : ev e a1 = v1) (h2 : ev e a2 = v2) (h3 : ev e a3 = v3) (hf : (callFunc f #[v0, v1, v2, v3]).run P w = .ok (.value v) w') :
    (execOp (ev e) ⟨d, .call { callee := .value (.func f), args := #[a0, a1, a2, a3], argTypes := ts }, ty, pos, af, g⟩).run P w = .ok (.value v) w' := by
  subst h0 h1 h2 h3
  simp only [execOp, resolve, Deferred.ofValue, invoke, Sem.run_bind]
  simpa [ev] using hf
end
end Go.EC
