/-
  Single operations, more of them: slices, copies, strings, interface values, appends. And the rules of a drawn region that only reads. No program in sight.
-/
import Derived.Test.YtcdhbfhijkdfoaaDoorBk
import Derived.LaidEql
import Derived.WideLaws
import Derived.Laws.BytesArg
import Derived.Maps.AppendAt
namespace Go.EC
open Go.RowKit
section
variable {P : Program} {e : Env} {w : World} {d : Option Nat} {ty : TypeId} {pos : String} {af : Array Edge} {g : Option (Nat × Bool)}

theorem ev_const (e : Env) (v : Value) : ev e (.const v) = v := rfl
theorem sliceBound_run {v : Value} {k : IntKind} {i y : Nat} {z : Int} (hv : v = .int k z) (hz : z = (i : Int)) (hi : i ≤ y) (c : BoundsCode) : (Instr.sliceBound v y c).run P w = .ok i w := by
  subst hv; subst hz
  have h0 : (0 : Int) ≤ (i : Int) ∧ (i : Int) ≤ (y : Int) := by omega
  simp only [Instr.sliceBound, asIntOf, Sem.run_bind, Sem.run_pure, Result.andThen_ok, if_pos h0]
  simp
/-- s[l:h] of a slice. -/
theorem x_slice_lh {t te : TypeId} {x lo hi : Operand} {A : Option Addr} {n c l h : Nat} {kl kh : IntKind} {zl zh : Int} (hu : P.underlying t = some (.slice te)) (hs : ∀ w, (sizeOf te).run P w = .ok 1 w)
    (hx : ev e x = .slice A n c) (hl : ev e lo = .int kl zl) (hh : ev e hi = .int kh zh) (el : zl = (l : Int)) (eh : zh = (h : Int)) (h1 : l ≤ h) (h2 : h ≤ c) :
    (execOp (ev e) ⟨d, .slice t x (some lo) (some hi) none, ty, pos, af, g⟩).run P w = .ok (.value (.slice (if c = l then A else A.map (·.add l)) (h - l) (c - l))) w := by
  simp only [execOp, hx, Option.map_some, Option.map_none, hl, hh, Instr.sliceAt, Sem.run_bind, run_underlying hu, Result.andThen_ok, Instr.slice, Instr.sliceBounds, Sem.run_pure, sliceBound_run rfl eh h2, sliceBound_run rfl el h1, hs, Nat.mul_one]
theorem x_slice_h {t te : TypeId} {x hi : Operand} {A : Option Addr} {n c h : Nat} {kh : IntKind} {zh : Int} (hu : P.underlying t = some (.slice te)) (hs : ∃ k, ∀ w, (sizeOf te).run P w = .ok k w)
    (hx : ev e x = .slice A n c) (hh : ev e hi = .int kh zh) (eh : zh = (h : Int)) (h2 : h ≤ c) :
    (execOp (ev e) ⟨d, .slice t x none (some hi) none, ty, pos, af, g⟩).run P w = .ok (.value (.slice A h c)) w := by
  obtain ⟨k, hs⟩ := hs
  simp only [execOp, hx, Option.map_some, Option.map_none, hh, Instr.sliceAt, Sem.run_bind, run_underlying hu, Result.andThen_ok, Instr.slice, Instr.sliceBounds, Sem.run_pure, sliceBound_run rfl eh h2, hs, Nat.zero_mul, Nat.sub_zero]
  split
  · rfl
  · cases A <;> simp [Addr.add]
theorem x_slice_l {t te : TypeId} {x lo : Operand} {A : Option Addr} {n c l : Nat} {kl : IntKind} {zl : Int} (hu : P.underlying t = some (.slice te)) (hs : ∀ w, (sizeOf te).run P w = .ok 1 w)
    (hx : ev e x = .slice A n c) (hl : ev e lo = .int kl zl) (el : zl = (l : Int)) (h1 : l ≤ n) :
    (execOp (ev e) ⟨d, .slice t x (some lo) none none, ty, pos, af, g⟩).run P w = .ok (.value (.slice (if c = l then A else A.map (·.add l)) (n - l) (c - l))) w := by
  simp only [execOp, hx, Option.map_some, Option.map_none, hl, Instr.sliceAt, Sem.run_bind, run_underlying hu, Result.andThen_ok, Instr.slice, Instr.sliceBounds, Sem.run_pure, sliceBound_run rfl el h1, hs, Nat.mul_one]
theorem x_slice_l0 {t te : TypeId} {x lo : Operand} {gg n c l : Nat} {kl : IntKind} {zl : Int} (hu : P.underlying t = some (.slice te)) (hs : ∀ w, (sizeOf te).run P w = .ok 1 w)
    (hx : ev e x = .slice (some ⟨gg, 0, none⟩) n c) (hl : ev e lo = .int kl zl) (el : zl = (l : Int)) (h1 : l ≤ n) (h2 : l < c) :
    (execOp (ev e) ⟨d, .slice t x (some lo) none none, ty, pos, af, g⟩).run P w = .ok (.value (.slice (some ⟨gg, l, none⟩) (n - l) (c - l))) w := by
  rw [x_slice_l hu hs hx hl el h1, if_neg (by omega)]
  simp [add_none]
theorem x_str_l {t : TypeId} {x lo : Operand} {s : ByteArray} {l : Nat} {kl : IntKind} {zl : Int} (hu : P.underlying t = some .string) (hx : ev e x = .string s) (hl : ev e lo = .int kl zl) (el : zl = (l : Int)) (h1 : l ≤ s.size) :
    (execOp (ev e) ⟨d, .slice t x (some lo) none none, ty, pos, af, g⟩).run P w = .ok (.value (.string (s.extract l s.size))) w := by
  simp [execOp, hx, hl, Instr.sliceAt, run_underlying hu, Instr.slice, Instr.sliceBounds, sliceBound_run rfl el h1]
theorem x_str_lh {t : TypeId} {x lo hi : Operand} {s : ByteArray} {l h : Nat} {kl kh : IntKind} {zl zh : Int} (hu : P.underlying t = some .string) (hx : ev e x = .string s) (hl : ev e lo = .int kl zl) (hh : ev e hi = .int kh zh) (el : zl = (l : Int)) (eh : zh = (h : Int)) (h1 : l ≤ h) (h2 : h ≤ s.size) :
    (execOp (ev e) ⟨d, .slice t x (some lo) (some hi) none, ty, pos, af, g⟩).run P w = .ok (.value (.string (s.extract l h))) w := by
  simp [execOp, hx, hl, hh, Instr.sliceAt, run_underlying hu, Instr.slice, Instr.sliceBounds, sliceBound_run rfl el h1, sliceBound_run rfl eh h2]
theorem x_str_h {t : TypeId} {x hi : Operand} {s : ByteArray} {h : Nat} {kh : IntKind} {zh : Int} (hu : P.underlying t = some .string) (hx : ev e x = .string s) (hh : ev e hi = .int kh zh) (eh : zh = (h : Int)) (h2 : h ≤ s.size) :
    (execOp (ev e) ⟨d, .slice t x none (some hi) none, ty, pos, af, g⟩).run P w = .ok (.value (.string (s.extract 0 h))) w := by
  simp [execOp, hx, hh, Instr.sliceAt, run_underlying hu, Instr.slice, Instr.sliceBounds, sliceBound_run rfl eh h2]
theorem x_str_at {t : TypeId} {x y : Operand} {s : ByteArray} {k : IntKind} {i : Nat} {z : Int} (hu : P.underlying t = some .string) (hx : ev e x = .string s) (hy : ev e y = .int k z) (hz : z = (i : Int)) {b : UInt8} (hb : s.data.toList[i]? = some b) :
    (execOp (ev e) ⟨d, .index t x y, ty, pos, af, g⟩).run P w = .ok (.value (bv b)) w := by
  subst hz
  have h0 : (0 : Int) ≤ (i : Int) := by omega
  have hi : i < s.size := by
    have := (List.getElem?_eq_some_iff.1 hb).1
    simpa using this
  have hg : s[i]? = some b := by
    rw [getElem?_pos s i hi]
    have := (List.getElem?_eq_some_iff.1 hb).2
    simp only [Array.getElem_toList] at this
    rw [← this]
    rfl
  simp [execOp, hx, hy, Instr.index, asIntOf, run_underlying hu, h0, hg, bv]
theorem x_str_add {t t' : TypeId} {x y : Operand} {a b : ByteArray} (hx : ev e x = .string a) (hy : ev e y = .string b) (h : a.size + b.size ≤ 9223372036854775807) :
    (execOp (ev e) ⟨d, .binOp .add t x y t', ty, pos, af, g⟩).run P w = .ok (.value (.string (a ++ b))) w := by
  have hgd : (eqGuard .add t x y (.string a) (.string b)).run P w = .ok () w := by
    unfold eqGuard; split <;> rfl
  have hm : ¬ ((a.size + b.size : Nat) : Int) > IntKind.i64.max := by
    have : IntKind.i64.max = 9223372036854775807 := rfl
    rw [this]; omega
  simp only [execOp, hx, hy, Sem.run_bind, hgd, Result.andThen_ok, binOp, Op.stringOp, if_neg hm]
  rfl
theorem x_str_eql {t t' : TypeId} {x y : Operand} {a b : ByteArray} (hx : ev e x = .string a) (hy : ev e y = .string b) :
    (execOp (ev e) ⟨d, .binOp .eql t x y t', ty, pos, af, g⟩).run P w = .ok (.value (.bool (a.toList == b.toList))) w := by
  have hgd : (eqGuard .eql t x y (.string a) (.string b)).run P w = .ok () w := by
    unfold eqGuard; split <;> rfl
  simp only [execOp, hx, hy, Sem.run_bind, hgd, Result.andThen_ok, binOp, Op.stringOp]
  rfl
theorem x_str_neq {t t' : TypeId} {x y : Operand} {a b : ByteArray} (hx : ev e x = .string a) (hy : ev e y = .string b) :
    (execOp (ev e) ⟨d, .binOp .neq t x y t', ty, pos, af, g⟩).run P w = .ok (.value (.bool (!(a.toList == b.toList)))) w := by
  have hgd : (eqGuard .neq t x y (.string a) (.string b)).run P w = .ok () w := by
    unfold eqGuard; split <;> rfl
  simp only [execOp, hx, hy, Sem.run_bind, hgd, Result.andThen_ok, binOp, Op.stringOp]
  rfl
theorem x_convi {t : TypeId} {dd : TypeDesc} {x : Operand} {k k' : IntKind} {z : Int} {src : TypeId} (hs : P.underlying src = some dd) (hu : P.underlying t = some (.int k')) (hx : ev e x = .int k z) :
    (execOp (ev e) ⟨d, .convert src t x, ty, pos, af, g⟩).run P w = .ok (.value (.int k' (k'.wrap z))) w := by
  simp [execOp, hx, convert, run_underlying hs, run_underlying hu, Conv.intToInt]
theorem x_rune_str {t : TypeId} {dd : TypeDesc} {x : Operand} {k : IntKind} {z : Int} {src : TypeId} (hs : P.underlying src = some dd) (hu : P.underlying t = some .string) (hx : ev e x = .int k z) :
    (execOp (ev e) ⟨d, .convert src t x, ty, pos, af, g⟩).run P w = .ok (.value (.string (Utf8.encode z))) w := by
  simp [execOp, hx, convert, run_underlying hs, run_underlying hu, Conv.intToString]

/-! Interface values against nil, and each other. -/
section
variable {t t' : TypeId} {ms : Array (String × TypeId)} {x y : Operand}
theorem guard_held {op : BinOp} {u : TypeId} {v b : Value} : (eqGuard op t x y (.iface u v) b).run P w = .ok () w := by
  cases op <;> rfl
theorem guard_nil {op : BinOp} {u : TypeId} {v : Value} : (eqGuard op t x y .nilIface (.iface u v)).run P w = .ok () w := by
  cases op <;> rfl
theorem x_neq_nil_nil (hi : P.underlying t = some (.interface ms)) (hx : ev e x = .nilIface) : (execOp (ev e) ⟨d, .binOp .neq t x (.const .nilIface) t', ty, pos, af, g⟩).run P w = .ok (.value (.bool false)) w := by
  have h : ∀ d : Nat, (Op.equalIn (d + 1) t .nilIface .nilIface).run P w = .ok true w := fun d => by simp [Op.equalIn, run_underlying hi]
  have hg : (eqGuard .neq t x (.const .nilIface) .nilIface .nilIface).run P w = .ok () w := by simp [eqGuard]
  simp only [execOp, hx, ev_const, Sem.run_bind, hg, Result.andThen_ok, binOp]
  simp [Op.equal, Op.maxDepth, h 9999]
theorem x_eql_nil_nil (hi : P.underlying t = some (.interface ms)) (hx : ev e x = .nilIface) : (execOp (ev e) ⟨d, .binOp .eql t x (.const .nilIface) t', ty, pos, af, g⟩).run P w = .ok (.value (.bool true)) w := by
  have h : ∀ d : Nat, (Op.equalIn (d + 1) t .nilIface .nilIface).run P w = .ok true w := fun d => by simp [Op.equalIn, run_underlying hi]
  have hg : (eqGuard .eql t x (.const .nilIface) .nilIface .nilIface).run P w = .ok () w := by simp [eqGuard]
  simp only [execOp, hx, ev_const, Sem.run_bind, hg, Result.andThen_ok, binOp]
  simp [Op.equal, Op.maxDepth, h 9999]
theorem x_neq_held {u : TypeId} {v : Value} (hi : P.underlying t = some (.interface ms)) (hx : ev e x = .iface u v) : (execOp (ev e) ⟨d, .binOp .neq t x (.const .nilIface) t', ty, pos, af, g⟩).run P w = .ok (.value (.bool true)) w := by
  have h : ∀ d : Nat, (Op.equalIn (d + 1) t (.iface u v) .nilIface).run P w = .ok false w := fun d => by simp [Op.equalIn, run_underlying hi]
  have hg : (eqGuard .neq t x (.const .nilIface) (.iface u v) .nilIface).run P w = .ok () w := guard_held
  simp only [execOp, hx, ev_const, Sem.run_bind, hg, Result.andThen_ok, binOp]
  simp [Op.equal, Op.maxDepth, h 9999]
theorem x_eql_held {u : TypeId} {v : Value} (hi : P.underlying t = some (.interface ms)) (hx : ev e x = .iface u v) : (execOp (ev e) ⟨d, .binOp .eql t x (.const .nilIface) t', ty, pos, af, g⟩).run P w = .ok (.value (.bool false)) w := by
  have h : ∀ d : Nat, (Op.equalIn (d + 1) t (.iface u v) .nilIface).run P w = .ok false w := fun d => by simp [Op.equalIn, run_underlying hi]
  have hg : (eqGuard .eql t x (.const .nilIface) (.iface u v) .nilIface).run P w = .ok () w := guard_held
  simp only [execOp, hx, ev_const, Sem.run_bind, hg, Result.andThen_ok, binOp]
  simp [Op.equal, Op.maxDepth, h 9999]
theorem x_eql_nil_held {u : TypeId} {v : Value} (hi : P.underlying t = some (.interface ms)) (hx : ev e x = .nilIface) (hy : ev e y = .iface u v) : (execOp (ev e) ⟨d, .binOp .eql t x y t', ty, pos, af, g⟩).run P w = .ok (.value (.bool false)) w := by
  have h := run_eql_iface_nil_left (P := P) w u v hi
  have hg : (eqGuard .eql t x y .nilIface (.iface u v)).run P w = .ok () w := guard_nil
  simp only [execOp, hx, hy, Sem.run_bind, hg, Result.andThen_ok, h]
  rfl
theorem x_eql_types {u u' : TypeId} {v v' : Value} (hi : P.underlying t = some (.interface ms)) (hx : ev e x = .iface u v) (hy : ev e y = .iface u' v') (hne : u ≠ u') : (execOp (ev e) ⟨d, .binOp .eql t x y t', ty, pos, af, g⟩).run P w = .ok (.value (.bool false)) w := by
  have h : ∀ d : Nat, (Op.equalIn (d + 1) t (.iface u v) (.iface u' v')).run P w = .ok false w := fun d => by simp [Op.equalIn, run_underlying hi, hne]
  have hg : (eqGuard .eql t x y (.iface u v) (.iface u' v')).run P w = .ok () w := guard_held
  simp only [execOp, hx, hy, Sem.run_bind, hg, Result.andThen_ok, binOp]
  simp [Op.equal, Op.maxDepth, h 9999]
/-- What the program's tables say of a pointer type behind an interface. -/
structure PtrT (P : Program) (tp te : TypeId) : Prop where
  ptr : P.underlying tp = some (.pointer te)
  comp : ∃ i, P.info? tp = some i ∧ i.comparable = true
  elem : ∃ j, P.info? te = some j ∧ j.size ≠ 0
theorem x_eql_same {tp te : TypeId} {a : Addr} (hi : P.underlying t = some (.interface ms)) (hp : PtrT P tp te) (hx : ev e x = .iface tp (.pointer (some a))) (hy : ev e y = .iface tp (.pointer (some a))) :
    (execOp (ev e) ⟨d, .binOp .eql t x y t', ty, pos, af, g⟩).run P w = .ok (.value (.bool true)) w := by
  obtain ⟨h1, ⟨i, h2, h3⟩, ⟨j, h4, _⟩⟩ := hp
  have h := run_eql_iface_ptr_same (P := P) w a hi h1 h2 h3 h4
  have hg : (eqGuard .eql t x y (.iface tp (.pointer (some a))) (.iface tp (.pointer (some a)))).run P w = .ok () w := guard_held
  simp only [execOp, hx, hy, Sem.run_bind, hg, Result.andThen_ok, h]
  rfl
theorem x_eql_other {tp te : TypeId} {a b : Addr} {ca cb : List Value} {ta tb : TypeId} (hi : P.underlying t = some (.interface ms)) (hp : PtrT P tp te) (hx : ev e x = .iface tp (.pointer (some a))) (hy : ev e y = .iface tp (.pointer (some b)))
    (hne : a ≠ b) (ha : Blk w a.block ta ca) (hb : Blk w b.block tb cb) :
    (execOp (ev e) ⟨d, .binOp .eql t x y t', ty, pos, af, g⟩).run P w = .ok (.value (.bool false)) w := by
  obtain ⟨h1, ⟨i, h2, h3⟩, ⟨j, h4, h5⟩⟩ := hp
  have h := run_eql_iface_ptr_other (P := P) w hi h1 h2 h3 h4 h5 hne ha hb
  have hg : (eqGuard .eql t x y (.iface tp (.pointer (some a))) (.iface tp (.pointer (some b)))).run P w = .ok () w := guard_held
  simp only [execOp, hx, hy, Sem.run_bind, hg, Result.andThen_ok, h]
  rfl
end
theorem x_mkiface {t : TypeId} {x : Operand} {v : Value} (hp : ∀ (v : Value) (w : World), (Instr.makeInterface t v).run P w = .ok (.iface t v) w) (hx : ev e x = v) :
    (execOp (ev e) ⟨d, .makeInterface t x, ty, pos, af, g⟩).run P w = .ok (.value (.iface t v)) w := by
  subst hx; simp only [execOp, Sem.run_bind, hp]; rfl
theorem x_nilc_iface {x : Operand} {t : TypeId} {v : Value} (hx : ev e x = .iface t v) : (execOp (ev e) ⟨d, .nilCheck x, ty, pos, af, g⟩).run P w = .ok (.value (.iface t v)) w := by
  simp only [execOp, hx]; rfl
theorem x_invoke1 {x y : Operand} {rv v : Value} {name : String} {ts : Array TypeId} {f : FuncId} {args : Array Value} (hx : ev e x = rv) (hy : ev e y = v) (hm : ∀ w, (callMethod rv name #[v]).run P w = .ok (.enter f args) w) :
    (execOp (ev e) ⟨d, .call { callee := .invoke x name, args := #[y], argTypes := ts }, ty, pos, af, g⟩).run P w = .ok (.enter f args) w := by
  subst hx hy
  simp [execOp, resolve, invoke, hm]
/-- A new variable that holds what is given. -/
theorem x_box {t : TypeId} {x : Operand} {cs : List Value} (hx : (ev e x).cells = cs.toArray) :
    (execOp (ev e) ⟨d, .box t x, ty, pos, af, g⟩).run P w = .ok (.value (.pointer (some ⟨w.heap.size, 0, none⟩))) (w.alloc (.cells cs.toArray t)) := by
  simp only [execOp, Instr.box, newVar, newRow, newObj, hx]; rfl
theorem x_alloc {t : TypeId} {z : Value} {cs : List Value} (hz : ∀ w, (zeroValue t).run P w = .ok z w) (hc : z.cells = cs.toArray) :
    (execOp (ev e) ⟨d, .alloc t, ty, pos, af, g⟩).run P w = .ok (.value (.pointer (some ⟨w.heap.size, 0, none⟩))) (w.alloc (.cells cs.toArray t)) := by
  simp only [execOp, Instr.alloc, Sem.run_bind, hz, Result.andThen_ok, newVar, newRow, newObj, hc]; rfl

/-- The built-in copy, once its source is loaded. -/
theorem copy_core {x y : Operand} {tb ts te : TypeId} {gg o n c m : Nat} {src : Value} {vs cs : List Value} {t : TypeId} (hu : P.underlying tb = some (.slice te)) (hs : ∀ w, (sizeOf te).run P w = .ok 1 w)
    (hx : ev e x = .slice (some ⟨gg, o, none⟩) n c) (hy : ev e y = src) (hlen : (Builtin.lenOf src).run P w = .ok m w) (hfc : (Builtin.firstCells 1 (min m n) src).run P w = .ok vs.toArray w)
    (hb : Blk w gg t cs) (hl : o + vs.length ≤ cs.length) (h1 : ∀ v ∈ vs, v.oneCell' = true) :
    ∃ v w', (execOp (ev e) ⟨d, .call { callee := .builtin .copy, args := #[x, y], argTypes := #[tb, ts] }, ty, pos, af, g⟩).run P w = .ok (.value v) w' ∧ v = .int .i64 (min m n : Nat) ∧
      Blk w' gg t (splice cs o vs) ∧ Only (· = gg) w w' := by
  obtain ⟨w', hr, hb', ho⟩ := storeCells_run (P := P) vs w cs o 0 hb (by omega) h1
  refine ⟨_, w', ?_, rfl, by simpa using hb', ho⟩
  have hm : Nat.min m n = min m n := rfl
  subst hy
  simp [execOp, resolve, invoke, builtin, Builtin.copy_, hx, run_underlying hu, hs, hlen, hm, hfc, hr, goInt]
/-- copy(dst, string) -/
theorem x_copy_str {x y : Operand} {tb ts te : TypeId} {gg o n c : Nat} {s : ByteArray} {cs : List Value} {t : TypeId} (hu : P.underlying tb = some (.slice te)) (hs : ∀ w, (sizeOf te).run P w = .ok 1 w)
    (hx : ev e x = .slice (some ⟨gg, o, none⟩) n c) (hy : ev e y = .string s) (hb : Blk w gg t cs) (hl : o + n ≤ cs.length) :
    ∃ v w', (execOp (ev e) ⟨d, .call { callee := .builtin .copy, args := #[x, y], argTypes := #[tb, ts] }, ty, pos, af, g⟩).run P w = .ok (.value v) w' ∧ v = .int .i64 (min s.size n : Nat) ∧
      Blk w' gg t (splice cs o ((s.data.toList.take (min s.size n)).map bv)) ∧ Only (· = gg) w w' := by
  refine copy_core hu hs hx hy (by simp [Builtin.lenOf]) ?_ hb (by simp; omega) (by intro v hv; rw [List.mem_map] at hv; obtain ⟨b, _, rfl⟩ := hv; rfl)
  simp only [Builtin.firstCells, Sem.run_pure]
  congr 1
  apply Array.toList_inj.1
  rw [Array.toList_map, ByteArray.data_extract]
  simp only [Array.toList_extract, List.extract_eq_take_drop, List.drop_zero, Nat.sub_zero]
  rfl
/-- copy(dst, slice of cells) -/
theorem x_copy_slice {x y : Operand} {tb ts te : TypeId} {gg o n c m c' : Nat} {A : Option Addr} {cs src : List Value} {t : TypeId} (hu : P.underlying tb = some (.slice te)) (hs : ∀ w, (sizeOf te).run P w = .ok 1 w)
    (hx : ev e x = .slice (some ⟨gg, o, none⟩) n c) (hy : ev e y = .slice A m c') (hb : Blk w gg t cs) (hl : o + n ≤ cs.length) (hsl : src.length = m)
    (hA : 0 < m → ∃ g' o', A = some ⟨g', o', none⟩ ∧ ∀ j v, src[j]? = some v → w.cell? ⟨g', o' + j, none⟩ = some v) (h1 : ∀ v ∈ src, v.oneCell' = true) :
    ∃ v w', (execOp (ev e) ⟨d, .call { callee := .builtin .copy, args := #[x, y], argTypes := #[tb, ts] }, ty, pos, af, g⟩).run P w = .ok (.value v) w' ∧ v = .int .i64 (min m n : Nat) ∧
      Blk w' gg t (splice cs o (src.take (min m n))) ∧ Only (· = gg) w w' := by
  refine copy_core hu hs hx hy (by simp [Builtin.lenOf]) ?_ hb (by simp; omega) (fun v hv => h1 v (List.mem_of_mem_take hv))
  rcases Nat.eq_zero_or_pos m with h0 | h0
  · subst h0
    have : src = [] := List.eq_nil_of_length_eq_zero hsl
    subst this
    cases A <;> simp [Builtin.firstCells, loadCells, loadCellsFrom]
  · obtain ⟨g', o', rfl, hc⟩ := hA h0
    simp only [Builtin.firstCells, loadCells, Nat.mul_one]
    have := loadCellsFrom_run (P := P) (min m n) w g' o' 0 #[] (src.take (min m n)) (by simp; omega) (fun j v hj => by
      rw [List.getElem?_take] at hj
      split at hj
      · exact hc j v hj
      · cases hj)
    simpa using this
end
end Go.EC
