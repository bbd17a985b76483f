/-
  Slices of listed values: single operations. No program in sight.
-/
import Derived.Test.YtcdhbfhijkdfoaaDoorAp
import Derived.Test.YtcdhbfhijkdfoaaDoorEb
namespace Go.EC
open Go.RowKit
section
variable {P : Program} {e : Env} {w : World} {d : Option Nat} {ty : TypeId} {pos : String} {af : Array Edge} {g : Option (Nat × Bool)}
theorem one_cells {v : Value} (h : v.oneCell' = true) : v.cells = #[v] := by
  cases v <;> simp_all [Value.oneCell', Value.cells]
theorem bslice_core {t te : TypeId} {n : Nat} {parts : Array (Nat × Operand)} {qs : List (Nat × Value)} {z : Value} {vs : List Value} (hu : P.underlying t = some (.slice te)) (hs : ∀ w, (sizeOf te).run P w = .ok 1 w) (hz : ∀ w, (zeroValue te).run P w = .ok z w) (hz1 : z.oneCell' = true)
    (hn0 : 0 < n) (hn : n ≤ 1000) (hq : parts.toList.map (fun p => (p.1, ev e p.2)) = qs) (hf : Instr.fill (fun i => some (i * 1, 1)) (List.replicate n z).toArray qs = some vs.toArray) :
    (execOp (ev e) ⟨d, .buildSlice t n parts, ty, pos, af, g⟩).run P w = .ok (.value (.slice (some ⟨w.heap.size, 0, none⟩) n n)) (w.alloc (.cells vs.toArray te)) := by
  subst hq
  have h1 : ¬ (n * 1 > 2 ^ 24) := by omega
  have h0 : ¬ (n * 1 = 0) := by omega
  have hp : (parts.map (fun (i, x) => (i, ev e x))).toList = parts.toList.map (fun p => (p.1, ev e p.2)) := by rw [Array.toList_map]
  have hr := mkRow n z
  simp only [execOp, Instr.buildSlice, Sem.run_bind, run_underlying hu, Result.andThen_ok, hs, if_neg h1, if_neg h0, hz, Sem.run_pure, one_cells hz1]
  rw [hp, Nat.mul_one, hr, hf]
  simp [newRow, newObj, Sem.run]
theorem fill_cons {v : Value} {i : Nat} {cs : List Value} {rest : List (Nat × Value)} {R : Option (Array Value)} (h1 : v.oneCell' = true) (hi : i < cs.length) (h : Instr.fill (fun i => some (i * 1, 1)) (cs.set i v).toArray rest = R) : Instr.fill (fun i => some (i * 1, 1)) cs.toArray ((i, v) :: rest) = R := by
  have hc := one_cells h1
  have hle : ¬ (i + 1 > cs.length) := by omega
  rw [Instr.fill]
  simp only [hc, Nat.mul_one]
  simp [hle, Array.zipIdx]
  simpa using h
theorem x_bs1 {t te : TypeId} {x : Operand} {v z : Value} (hu : P.underlying t = some (.slice te)) (hs : ∀ w, (sizeOf te).run P w = .ok 1 w) (hz : ∀ w, (zeroValue te).run P w = .ok z w) (hz1 : z.oneCell' = true) (hx : ev e x = v) (h1 : v.oneCell' = true) :
    (execOp (ev e) ⟨d, .buildSlice t 1 #[(0, x)], ty, pos, af, g⟩).run P w = .ok (.value (.slice (some ⟨w.heap.size, 0, none⟩) 1 1)) (w.alloc (.cells [v].toArray te)) :=
  bslice_core hu hs hz hz1 (by omega) (by omega) rfl (by subst hx; exact fill_cons h1 (by simp) rfl)
theorem x_bs2 {t te : TypeId} {x y : Operand} {v u z : Value} (hu : P.underlying t = some (.slice te)) (hs : ∀ w, (sizeOf te).run P w = .ok 1 w) (hz : ∀ w, (zeroValue te).run P w = .ok z w) (hz1 : z.oneCell' = true) (hx : ev e x = v) (hy : ev e y = u) (h1 : v.oneCell' = true) (h2 : u.oneCell' = true) :
    (execOp (ev e) ⟨d, .buildSlice t 2 #[(0, x), (1, y)], ty, pos, af, g⟩).run P w = .ok (.value (.slice (some ⟨w.heap.size, 0, none⟩) 2 2)) (w.alloc (.cells [v, u].toArray te)) :=
  bslice_core hu hs hz hz1 (by omega) (by omega) rfl (by subst hx hy; exact fill_cons h1 (by simp) (fill_cons h2 (by simp) rfl))
theorem x_bs3 {t te : TypeId} {x y y3 : Operand} {v u u3 z : Value} (hu : P.underlying t = some (.slice te)) (hs : ∀ w, (sizeOf te).run P w = .ok 1 w) (hz : ∀ w, (zeroValue te).run P w = .ok z w) (hz1 : z.oneCell' = true) (hx : ev e x = v) (hy : ev e y = u) (hy3 : ev e y3 = u3) (h1 : v.oneCell' = true) (h2 : u.oneCell' = true) (h3 : u3.oneCell' = true) :
    (execOp (ev e) ⟨d, .buildSlice t 3 #[(0, x), (1, y), (2, y3)], ty, pos, af, g⟩).run P w = .ok (.value (.slice (some ⟨w.heap.size, 0, none⟩) 3 3)) (w.alloc (.cells [v, u, u3].toArray te)) :=
  bslice_core hu hs hz hz1 (by omega) (by omega) rfl (by subst hx hy hy3; exact fill_cons h1 (by simp) (fill_cons h2 (by simp) (fill_cons h3 (by simp) rfl)))
theorem x_bs4 {t te : TypeId} {x y y3 y4 : Operand} {v u u3 u4 z : Value} (hu : P.underlying t = some (.slice te)) (hs : ∀ w, (sizeOf te).run P w = .ok 1 w) (hz : ∀ w, (zeroValue te).run P w = .ok z w) (hz1 : z.oneCell' = true) (hx : ev e x = v) (hy : ev e y = u) (hy3 : ev e y3 = u3) (hy4 : ev e y4 = u4) (h1 : v.oneCell' = true) (h2 : u.oneCell' = true) (h3 : u3.oneCell' = true) (h4 : u4.oneCell' = true) :
    (execOp (ev e) ⟨d, .buildSlice t 4 #[(0, x), (1, y), (2, y3), (3, y4)], ty, pos, af, g⟩).run P w = .ok (.value (.slice (some ⟨w.heap.size, 0, none⟩) 4 4)) (w.alloc (.cells [v, u, u3, u4].toArray te)) :=
  bslice_core hu hs hz hz1 (by omega) (by omega) rfl (by subst hx hy hy3 hy4; exact fill_cons h1 (by simp) (fill_cons h2 (by simp) (fill_cons h3 (by simp) (fill_cons h4 (by simp) rfl))))
/-- The cells of a block, as the source of an append. -/
theorem Cells.of_blk {gg : Nat} {t : TypeId} {cs : List Value} (h : Blk w gg t cs) : Cells w (some ⟨gg, 0, none⟩) cs := fun _ => ⟨gg, 0, rfl, fun j u hu => by rw [Nat.zero_add]; exact h.cell j hu⟩
theorem Cells.nil (w : World) (A : Option Addr) : Cells w A [] := fun h => absurd rfl h
end
end Go.EC
