/-
  Blocks of memory that are known whole, stores and loads of many cells, bytes behind a slice. No program in sight.
-/
import Derived.Test.YtcdhbfhijkdfoaaDoorEd
namespace Go.EC
open Go.RowKit

abbrev Bytes := List UInt8
/-- A byte as a value. -/
def bv (b : UInt8) : Value := .int .u8 (b.toNat : Int)
/-- Block g is just these cells, none frozen. -/
def Blk (w : World) (g : Nat) (t : TypeId) (cs : List Value) : Prop := w.heap[g]? = some (.cells cs.toArray t (0, 0))
/-- Below: nothing but the blocks of S (and new ones) has turned. -/
structure Only (S : Nat → Prop) (w w' : World) : Prop where
  os : w'.os = w.os
  tape : w'.tape = w.tape
  output : w'.output = w.output
  size : w.heap.size ≤ w'.heap.size
  block : ∀ k, k < w.heap.size → ¬ S k → w'.heap[k]? = w.heap[k]?

section
variable {w w' w'' : World} {g g' : Nat} {t t' : TypeId} {cs cs' : List Value} {S S' : Nat → Prop}
theorem Only.refl (S : Nat → Prop) (w : World) : Only S w w := ⟨rfl, rfl, rfl, Nat.le_refl _, fun _ _ _ => rfl⟩
theorem Only.trans (h : Only S w w') (k : Only S w' w'') : Only S w w'' :=
  ⟨k.os.trans h.os, k.tape.trans h.tape, k.output.trans h.output, Nat.le_trans h.size k.size, fun i hi hs => (k.block i (Nat.lt_of_lt_of_le hi h.size) hs).trans (h.block i hi hs)⟩
theorem Only.mono (h : Only S w w') (hs : ∀ k, k < w.heap.size → S k → S' k) : Only S' w w' :=
  ⟨h.os, h.tape, h.output, h.size, fun k hk hn => h.block k hk fun hS => hn (hs k hk hS)⟩
theorem Only.then_ (h : Only S w w') (k : Only S' w' w'') (hs : ∀ i, i < w.heap.size → S' i → S i) : Only S w w'' :=
  ⟨k.os.trans h.os, k.tape.trans h.tape, k.output.trans h.output, Nat.le_trans h.size k.size, fun i hi hn => (k.block i (Nat.lt_of_lt_of_le hi h.size) fun h' => hn (hs i hi h')).trans (h.block i hi hn)⟩
theorem Only.below {B : Nat} (h : Only S w w') (hB : ∀ k, S k → B ≤ k) (hsz : B ≤ w.heap.size) : Below B w w' :=
  ⟨h.os, h.tape, h.output, h.size, fun k hk => h.block k (by omega) fun hS => by have := hB k hS; omega⟩
theorem Only.of_below (h : Below w.heap.size w w') (S : Nat → Prop) : Only S w w' := ⟨h.os, h.tape, h.output, h.size, fun k hk _ => h.block k hk⟩
theorem Only.drew (S : Nat → Prop) (w : World) : Only S w (dr w) := ⟨rfl, rfl, rfl, Nat.le_refl _, fun _ _ _ => rfl⟩
theorem Only.setCell (S : Nat → Prop) (w : World) {p : Addr} (hp : S p.block) (u : Value) : Only S w (w.setCell p u) :=
  ⟨rfl, rfl, rfl, by simp [World.setCell], fun k _ hn => Below.heap_setCell w p u k (fun e => hn (e ▸ hp))⟩
theorem Only.alloc (S : Nat → Prop) (w : World) (o : Obj) : Only S w (w.alloc o) :=
  ⟨rfl, rfl, rfl, by simp, fun k hk _ => Below.heap_alloc w o k hk⟩

/-- The same but for draws. -/
structure Same (w w' : World) : Prop where
  os : w'.os = w.os
  tape : w'.tape = w.tape
  output : w'.output = w.output
  heap : w'.heap = w.heap
theorem Same.refl (w : World) : Same w w := ⟨rfl, rfl, rfl, rfl⟩
theorem Same.drew (w : World) : Same w (dr w) := ⟨rfl, rfl, rfl, rfl⟩
theorem Same.trans (h : Same w w') (k : Same w' w'') : Same w w'' := ⟨k.os.trans h.os, k.tape.trans h.tape, k.output.trans h.output, k.heap.trans h.heap⟩
theorem Same.dr (h : Same w w') : Same w (dr w') := h.trans (Same.drew w')
theorem Same.only (h : Same w w') (S : Nat → Prop) : Only S w w' := ⟨h.os, h.tape, h.output, by rw [h.heap]; exact Nat.le_refl _, fun k _ _ => by rw [h.heap]⟩
theorem Same.cell (h : Same w w') (p : Addr) : w'.cell? p = w.cell? p := by unfold World.cell?; rw [h.heap]
theorem Blk.same (h : Blk w g t cs) (hs : Same w w') : Blk w' g t cs := by unfold Blk at *; rw [hs.heap]; exact h
theorem Blk.lt (h : Blk w g t cs) : g < w.heap.size := by
  rcases Nat.lt_or_ge g w.heap.size with hlt | hge
  · exact hlt
  · unfold Blk at h; rw [Array.getElem?_eq_none hge] at h; cases h
theorem Blk.cell (h : Blk w g t cs) (i : Nat) {v : Value} (hv : cs[i]? = some v) : w.cell? ⟨g, i, none⟩ = some v := by
  unfold Blk at h
  simp [World.cell?, h, hv]
theorem Blk.free (h : Blk w g t cs) (i : Nat) : w.frozen? ⟨g, i, none⟩ = false := by
  unfold Blk at h
  simp [World.frozen?, h]
theorem Blk.drew (h : Blk w g t cs) : Blk (dr w) g t cs := h
theorem Blk.grew (h : Blk w g t cs) (hg : Grew w w') : Blk w' g t cs := (hg.2 g h.lt).trans h
theorem Blk.only (h : Blk w g t cs) (ho : Only S w w') (hS : ¬ S g) : Blk w' g t cs := (ho.block g h.lt hS).trans h
theorem Blk.below {B : Nat} (h : Blk w g t cs) (hb : Below B w w') (hg : g < B) : Blk w' g t cs := (hb.block g hg).trans h
theorem Blk.new (w : World) (t : TypeId) (cs : List Value) : Blk (w.alloc (.cells cs.toArray t)) w.heap.size t cs := by
  show (w.heap.push _)[w.heap.size]? = _
  simp
theorem Blk.alloc (h : Blk w g t cs) (o : Obj) : Blk (w.alloc o) g t cs := (Below.heap_alloc w o g h.lt).trans h
theorem Blk.set (h : Blk w g t cs) (i : Nat) (u : Value) : Blk (w.setCell ⟨g, i, none⟩ u) g t (cs.set i u) := by
  unfold Blk at h ⊢
  simp [World.setCell, Array.getElem?_modify, h]
theorem Blk.far (h : Blk w g t cs) {p : Addr} (hp : g ≠ p.block) (u : Value) : Blk (w.setCell p u) g t cs := (Below.heap_setCell w p u g hp).trans h
theorem Blk.ne (h : Blk w g t cs) (h' : Blk w g' t' cs') (hne : t ≠ t') : g ≠ g' := by
  rintro rfl
  unfold Blk at h h'
  rw [h] at h'
  injection h' with h'
  injection h' with _ ht
  exact hne ht
theorem Grew.cell {p : Addr} {v : Value} (hg : Grew w w') (hc : w.cell? p = some v) : w'.cell? p = some v := by
  have hlt : p.block < w.heap.size := by
    rcases Nat.lt_or_ge p.block w.heap.size with h | h
    · exact h
    · simp [World.cell?, Array.getElem?_eq_none h] at hc
  rw [← hc]
  exact World.cell?_of_block (hg.2 p.block hlt)
theorem Grew.alloc (w : World) (o : Obj) : Grew w (w.alloc o) := ⟨by simp, fun k hk => Below.heap_alloc w o k hk⟩
theorem cell_lt {p : Addr} {v : Value} (hc : w.cell? p = some v) : p.block < w.heap.size := by
  rcases Nat.lt_or_ge p.block w.heap.size with h | h
  · exact h
  · simp [World.cell?, Array.getElem?_eq_none h] at hc

theorem ext_list (s : ByteArray) (i j : Nat) : (s.extract i j).data.toList = (s.data.toList.take j).drop i := by
  rw [ByteArray.data_extract, Array.toList_extract, List.extract_eq_take_drop, ← List.drop_take]
theorem ext_size (s : ByteArray) (i j : Nat) (h : j ≤ s.size) : (s.extract i j).size = j - i := by
  rw [ByteArray.size_extract, Nat.min_eq_left h]
theorem ba_len (s : ByteArray) : s.data.toList.length = s.size := by simp
/-- A list with some of its places overwritten. -/
def splice (cs : List Value) (o : Nat) (vs : List Value) : List Value := cs.take o ++ vs ++ cs.drop (o + vs.length)
theorem splice_nil (cs : List Value) (o : Nat) : splice cs o [] = cs := by simp [splice]
theorem splice_length {cs vs : List Value} {o : Nat} (h : o + vs.length ≤ cs.length) : (splice cs o vs).length = cs.length := by
  simp [splice]; omega
theorem splice_cons {cs vs : List Value} {o : Nat} {v : Value} (h : o + (v :: vs).length ≤ cs.length) : splice (cs.set o v) (o + 1) vs = splice cs o (v :: vs) := by
  simp only [List.length_cons] at h
  unfold splice
  have h1 : (cs.set o v).take (o + 1) = cs.take o ++ [v] := by
    rw [List.take_succ_eq_append_getElem (by simp; omega), List.take_set_of_le (Nat.le_refl _)]
    simp
  have h2 : (cs.set o v).drop (o + 1 + vs.length) = cs.drop (o + (v :: vs).length) := by
    rw [List.drop_set_of_lt (by omega)]
    simp only [List.length_cons]
    congr 1
    omega
  rw [h1, h2]
  simp
theorem add_none (g o k : Nat) : Addr.add ⟨g, o, none⟩ k = ⟨g, o + k, none⟩ := by unfold Addr.add; split <;> simp_all
/-- Many cells stored into one block. -/
theorem storeCells_run {P : Program} : ∀ (vs : List Value) (w : World) (cs : List Value) (o i : Nat), Blk w g t cs → o + i + vs.length ≤ cs.length → (∀ v ∈ vs, v.oneCell' = true) →
    ∃ w', (storeCells ⟨g, o, none⟩ vs i).run P w = .ok () w' ∧ Blk w' g t (splice cs (o + i) vs) ∧ Only (· = g) w w'
  | [], w, cs, o, i, hb, _, _ => ⟨w, rfl, by rw [splice_nil]; exact hb, Only.refl _ _⟩
  | v :: vs, w, cs, o, i, hb, hl, h1 => by
    simp only [List.length_cons] at hl
    have hc : w.cell? ⟨g, o + i, none⟩ = some (cs[o + i]'(by omega)) := hb.cell (o + i) (List.getElem?_eq_getElem (by omega))
    have hst : (store (Addr.add ⟨g, o, none⟩ i) v).run P w = .ok () (w.setCell ⟨g, o + i, none⟩ v) := by
      have hv := h1 v (by simp)
      rw [add_none]
      cases v <;> simp_all [store, Sem.run, Value.oneCell', hb.free]
    obtain ⟨w', hr, hb', ho⟩ := storeCells_run (P := P) vs (w.setCell ⟨g, o + i, none⟩ v) (cs.set (o + i) v) o (i + 1) (hb.set _ _) (by simp; omega) (fun u hu => h1 u (by simp [hu]))
    refine ⟨w', ?_, ?_, (Only.setCell (· = g) w rfl v).trans ho⟩
    · simp only [storeCells, Sem.run_bind, hst, Result.andThen_ok, hr]
    · have := splice_cons (cs := cs) (vs := vs) (o := o + i) (v := v) (by simp; omega)
      rw [← this]
      exact hb'
theorem loadCellsFrom_run {P : Program} : ∀ (n : Nat) (w : World) (g o i : Nat) (acc : Array Value) (vs : List Value), vs.length = n → (∀ j v, vs[j]? = some v → w.cell? ⟨g, o + i + j, none⟩ = some v) →
    (loadCellsFrom ⟨g, o, none⟩ i n acc).run P w = .ok (acc ++ vs.toArray) w
  | 0, w, g, o, i, acc, vs, hl, _ => by
    have : vs = [] := List.eq_nil_of_length_eq_zero hl
    subst this
    simp [loadCellsFrom]
  | n + 1, w, g, o, i, acc, [], hl, _ => by simp at hl
  | n + 1, w, g, o, i, acc, v :: vs, hl, hc => by
    have h0 : w.cell? ⟨g, o + i, none⟩ = some v := hc 0 v rfl
    have ih := loadCellsFrom_run (P := P) n w g o (i + 1) (acc.push v) vs (by simpa using hl) (fun j u hu => by
      have := hc (j + 1) u (by simpa using hu)
      rw [← this]; congr 2; omega)
    simp only [loadCellsFrom, Sem.run_bind, add_none]
    have hld : (load ⟨g, o + i, none⟩).run P w = .ok v w := by simp [load, Sem.run, h0]
    rw [hld]
    simp only [Result.andThen_ok, ih]
    simp

/-- The bytes l lie behind the address A. -/
def At (w : World) (A : Option Addr) (l : Bytes) : Prop := l ≠ [] → ∃ g o, A = some ⟨g, o, none⟩ ∧ ∀ j b, l[j]? = some b → w.cell? ⟨g, o + j, none⟩ = some (bv b)
theorem At.nil (w : World) (A : Option Addr) : At w A [] := fun h => absurd rfl h
theorem At.keep {A : Option Addr} {l : Bytes} (h : At w A l) (hk : ∀ p v, w.cell? p = some v → (∃ g o j, A = some ⟨g, o, none⟩ ∧ p = ⟨g, o + j, none⟩) → w'.cell? p = some v) : At w' A l := fun hl => by
  obtain ⟨g, o, hA, hc⟩ := h hl
  exact ⟨g, o, hA, fun j b hb => hk _ _ (hc j b hb) ⟨g, o, j, hA, rfl⟩⟩
theorem At.same {A : Option Addr} {l : Bytes} (h : At w A l) (hs : Same w w') : At w' A l := h.keep fun p _ hc _ => (hs.cell p).trans hc
theorem At.grew {A : Option Addr} {l : Bytes} (h : At w A l) (hg : Grew w w') : At w' A l := h.keep fun _ _ hc _ => hg.cell hc
theorem At.only {A : Option Addr} {l : Bytes} (h : At w A l) (ho : Only S w w') (hA : ∀ g o, A = some ⟨g, o, none⟩ → ¬ S g) : At w' A l := fun hl => by
  obtain ⟨g, o, hA', hc⟩ := h hl
  refine ⟨g, o, hA', fun j b hb => ?_⟩
  have h0 := hc j b hb
  rw [← h0]
  exact World.cell?_of_block (ho.block g (cell_lt h0) (hA g o hA'))
theorem At.blk {l : Bytes} {o : Nat} (h : Blk w g t cs) (hl : ∀ j b, l[j]? = some b → cs[o + j]? = some (bv b)) : At w (some ⟨g, o, none⟩) l :=
  fun _ => ⟨g, o, rfl, fun j b hb => h.cell (o + j) (hl j b hb)⟩
theorem At.drop {A : Option Addr} {l : Bytes} (h : At w A l) (k cap : Nat) (hc : l.length ≤ cap) : At w (if cap = k then A else A.map (·.add k)) (l.drop k) := fun hl => by
  have hk : k < l.length := by
    rcases Nat.lt_or_ge k l.length with h1 | h1
    · exact h1
    · exact absurd (List.drop_eq_nil_of_le h1) hl
  obtain ⟨g, o, rfl, hcl⟩ := h (by rintro rfl; simp at hk)
  rw [if_neg (by omega)]
  refine ⟨g, o + k, by simp [add_none], fun j b hb => ?_⟩
  rw [Nat.add_assoc]
  exact hcl (k + j) b (by rw [← hb, List.getElem?_drop])
theorem At.take {A : Option Addr} {l : Bytes} (h : At w A l) (k : Nat) : At w A (l.take k) := fun hl => by
  obtain ⟨g, o, hA, hc⟩ := h (by rintro rfl; simp at hl)
  refine ⟨g, o, hA, fun j b hb => hc j b ?_⟩
  rw [List.getElem?_take] at hb
  split at hb
  · exact hb
  · cases hb
end
end Go.EC
