/-
  Operations that readRecord and the laws want beside the others: a slice of one pair, make, bytes as a string. And the end of a field.
-/
import Derived.Test.YtcdhbfhijkdfoaaDoorRt
import Derived.Test.YtcdhbfhijkdfoaaDoorEg
import Derived.Laws.IdiomStrings
namespace Go.EC
open Go.RowKit
section
variable {P : Program} {e : Env} {w : World} {d : Option Nat} {ty : TypeId} {pos : String} {af : Array Edge} {g : Option (Nat × Bool)}
theorem x_bsP {t te : TypeId} {x : Operand} {v0 v1 z0 z1 : Value} (hu : P.underlying t = some (.slice te)) (hs : ∀ w, (sizeOf te).run P w = .ok 2 w) (hz : ∀ w, (zeroValue te).run P w = .ok (.agg #[z0, z1]) w) (hx : ev e x = .agg #[v0, v1]) :
    (execOp (ev e) ⟨d, .buildSlice t 1 #[(0, x)], ty, pos, af, g⟩).run P w = .ok (.value (.slice (some ⟨w.heap.size, 0, none⟩) 1 1)) (w.alloc (.cells [v0, v1].toArray te)) := by
  have hr : (Array.range 2).map (fun i => (#[z0, z1] : Array Value)[i % (#[z0, z1] : Array Value).size]!) = #[z0, z1] := by
    apply Array.ext
    · simp
    · intro i h1 h2
      have h3 : i = 0 ∨ i = 1 := by simp at h1; omega
      rcases h3 with rfl | rfl <;> simp
  simp only [execOp, Instr.buildSlice, Sem.run_bind, run_underlying hu, Result.andThen_ok, hs, Sem.run_pure, Value.cells]
  simp only [Nat.one_mul]
  rw [if_neg (by decide), if_neg (by decide)]
  simp only [Sem.run_bind, Sem.run_pure, Result.andThen_ok, hz, hr]
  simp [Instr.fill, hx, Value.cells, newRow, newObj, Sem.run, Array.zipIdx]
theorem x_mkslice2 {t te : TypeId} {x y : Operand} {k k' : IntKind} {n by_ : Nat} {z : Value} (hu : P.underlying t = some (.slice te)) (hs : ∀ w, (sizeOf te).run P w = .ok 1 w) (hb : ∃ i, P.info? te = some i ∧ i.bytes = by_) (hz : ∀ w, (zeroValue te).run P w = .ok z w) (hc : z.cells = #[z])
    (hx : ev e x = .int k (n : Int)) (hy : ev e y = .int k' (n : Int)) (h0 : 0 < n) (hn : n ≤ 4294967296) (hby : by_ ≤ 24) :
    (execOp (ev e) ⟨d, .makeSlice t x y, ty, pos, af, g⟩).run P w = .ok (.value (.slice (some ⟨w.heap.size, 0, none⟩) n n)) (w.alloc (.cells (List.replicate n z).toArray te)) := by
  obtain ⟨i, hi, hbi⟩ := hb
  have hti : ∀ w, (typeInfo te).run P w = .ok i w := fun w => by simp [typeInfo, Sem.run_bind, hi]
  have hw : IntKind.i64.wrap (n : Int) = (n : Int) := wrap64 (by omega) (by omega)
  have hnb : n * by_ ≤ 4294967296 * 24 := Nat.mul_le_mul hn hby
  have hr : ¬ (n * by_ > roomBytes) := by unfold roomBytes; omega
  have hcond : (decide ((n : Int) < 0) || decide ((by_ : Int) * (n : Int) > 2 ^ 48) || decide ((n : Int) < 0) || decide ((n : Int) > (n : Int))) = false := by
    have h1 : (by_ : Int) * (n : Int) = ((n * by_ : Nat) : Int) := by rw [Int.natCast_mul, Int.mul_comm]
    have h2 : ¬ ((2 : Int) ^ 48 < ((n * by_ : Nat) : Int)) := by omega
    have h3 : ¬ ((n : Int) < 0) := by omega
    simp only [h1, gt_iff_lt, h2, h3, decide_false, Bool.or_false, Int.lt_irrefl]
  have hn0 : ¬ (n * 1 = 0) := by omega
  simp only [execOp, hx, hy, Instr.makeSlice, Sem.run_bind, run_underlying hu, Result.andThen_ok, asInt, asIntOf, Sem.run_pure, hti, hbi, hw, hcond, Bool.false_eq_true, if_false, Int.toNat_natCast, askRoom, hr, hs, hn0, hz, hc, newRow, newObj]
  rw [mkRow]
  simp only [Nat.mul_one]
  rfl
theorem x_bytes_str {t te ts : TypeId} {x : Operand} {A : Option Addr} {n c : Nat} {l : Bytes} (hs : P.underlying t = some (.slice te)) (he : P.underlying te = some (.int .u8)) (hd : P.underlying ts = some .string) (hx : ev e x = .slice A n c) (hn : n = l.length) (hA : At w A l) :
    (execOp (ev e) ⟨d, .convert t ts x, ty, pos, af, g⟩).run P w = .ok (.value (.string ⟨l.toArray⟩)) w := by
  subst hn
  by_cases hl : l = []
  · subst hl
    cases A with
    | none => simp [execOp, hx, convert, run_underlying hs, run_underlying he, run_underlying hd, Conv.bytesToString]; rfl
    | some a => simp [execOp, hx, convert, run_underlying hs, run_underlying he, run_underlying hd, Conv.bytesToString, loadCells, loadCellsFrom]; rfl
  · obtain ⟨gA, o, rfl, hc⟩ := hA hl
    have hr := run_convert_bytes_back (P := P) w t ts te ⟨gA, o, none⟩ c l hs he hd (fun i hi => by
      have := hc i _ (List.getElem?_eq_getElem hi)
      rw [add_none, this]; rfl)
    simp only [execOp, hx, Sem.run_bind, hr, Result.andThen_ok]
    rfl
end
end Go.EC
namespace Go.Proofs.YtcdhbfhijkdfoaaDoor
open Go.EC Go.RowKit
theorem eT9 : ElemT Tryd.prog 30 9 1 16 := ⟨Tryd.underlying30, by
  have h : (Tryd.prog.info? 9).map (fun i => (i.zero, i.size, i.bytes)) = some (some (.string ByteArray.empty), 1, 16) := by kernel_rfl
  obtain ⟨i, hi, h2⟩ := Option.map_eq_some_iff.1 h
  simp only [Prod.mk.injEq] at h2
  exact ⟨i, _, hi, h2.1, h2.2.1, h2.2.2, rfl⟩, by decide⟩
theorem eT30 : ElemT Tryd.prog 27 30 1 24 := ⟨Tryd.underlying27, by
  have h : (Tryd.prog.info? 30).map (fun i => (i.zero, i.size, i.bytes)) = some (some (.slice none 0 0), 1, 24) := by kernel_rfl
  obtain ⟨i, hi, h2⟩ := Option.map_eq_some_iff.1 h
  simp only [Prod.mk.injEq] at h2
  exact ⟨i, _, hi, h2.1, h2.2.1, h2.2.2, rfl⟩, by decide⟩
theorem eT3 : ElemT Tryd.prog 38 3 1 8 := ⟨Tryd.underlying38, by
  have h : (Tryd.prog.info? 3).map (fun i => (i.zero, i.size, i.bytes)) = some (some (.int .i64 0), 1, 8) := by kernel_rfl
  obtain ⟨i, hi, h2⟩ := Option.map_eq_some_iff.1 h
  simp only [Prod.mk.injEq] at h2
  exact ⟨i, _, hi, h2.1, h2.2.1, h2.2.2, rfl⟩, by decide⟩
theorem eT85 : ElemT Tryd.prog 69 85 2 16 := ⟨Tryd.underlying69, by
  have h : (Tryd.prog.info? 85).map (fun i => (i.zero, i.size, i.bytes)) = some (some (.agg #[.int .i64 0, .int .i64 0]), 2, 16) := by kernel_rfl
  obtain ⟨i, hi, h2⟩ := Option.map_eq_some_iff.1 h
  simp only [Prod.mk.injEq] at h2
  exact ⟨i, _, hi, h2.1, h2.2.1, h2.2.2, rfl⟩, by decide⟩
theorem zv30 (w : World) : (zeroValue 30).run Tryd.prog w = .ok (.slice none 0 0) w := by kernel_rfl
theorem zv3 (w : World) : (zeroValue 3).run Tryd.prog w = .ok (.int .i64 0) w := by kernel_rfl
theorem zv5 (w : World) : (zeroValue 5).run Tryd.prog w = .ok (.int .u8 0) w := by kernel_rfl
theorem zv9 (w : World) : (zeroValue 9).run Tryd.prog w = .ok (.string ByteArray.empty) w := by kernel_rfl
theorem zv85 (w : World) : (zeroValue 85).run Tryd.prog w = .ok (.agg #[.int .i64 0, .int .i64 0]) w := by kernel_rfl
theorem sz85 (w : World) : (sizeOf 85).run Tryd.prog w = .ok 2 w := by kernel_rfl
theorem by9 : ∃ i, Tryd.prog.info? 9 = some i ∧ i.bytes = 16 := by
  have h : (Tryd.prog.info? 9).map (fun i => i.bytes) = some 16 := by kernel_rfl
  exact Option.map_eq_some_iff.1 h
theorem bd85 (l n : Int) (w : World) : (Instr.build 85 #[(0, .int .i64 l), (1, .int .i64 n)]).run Tryd.prog w = .ok (.agg #[.int .i64 l, .int .i64 n]) w := by kernel_rfl
theorem pair_one {l n : Int} : ∀ v ∈ [Value.int .i64 l, .int .i64 n], v.oneCell' = true := by simp [Value.oneCell']
theorem int_one {z : Int} : ∀ v ∈ [Value.int .i64 z], v.oneCell' = true := by simp [Value.oneCell']
theorem byte_one {z : Int} : ∀ v ∈ [Value.int .u8 z], v.oneCell' = true := by simp [Value.oneCell']
end Go.Proofs.YtcdhbfhijkdfoaaDoor
