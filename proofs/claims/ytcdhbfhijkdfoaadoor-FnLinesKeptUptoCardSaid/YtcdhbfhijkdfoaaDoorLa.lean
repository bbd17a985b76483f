/-
  What the rows' list of variables gives the walks: the errors, the tables of utf8. And a world for the witness.
-/
import Derived.Test.YtcdhbfhijkdfoaaDoorCs
import Derived.Test.YtcdhbfhijkdfoaaDoorRows
import Derived.LaidLaws
import Derived.Stop.LaidErr
import Derived.Lib.LaidU8T
import Derived.Lay
namespace Go.Proofs.YtcdhbfhijkdfoaaDoor
open Go.EC Go.RowKit Go.ChangeShapes

/-- The list that all rows bear. -/
abbrev laidL : List (String × DataW Unit) := Rows.fnWrongOptionsRow.laid
/-- The name of the type behind the errors that are laid. -/
def errName : String := match (Rows.laid_io_EOF : DataW Unit) with
  | .iface n _ => n
  | _ => "none"
theorem row143 (u : TypeId) (h : Tryd.prog.typeName? 3 u = some errName) : u = 143 :=
  typeName_ptr_named (nm := "errors.errorString") (by kernel_rfl) (by kernel_rfl) (by decide) u (h.trans (congrArg some (by decide)))
theorem cells170 : Tryd.prog.cellsOf 170 = 1 := by kernel_rfl
theorem cells9 : Tryd.prog.cellsOf 9 = 1 := by kernel_rfl
theorem und143 : Tryd.prog.underlying 143 = some (.pointer 170) := by kernel_rfl
theorem und170 : ∃ f : Field, Tryd.prog.underlying 170 = some (.struct #[f]) ∧ f.type = 9 ∧ f.offset = 0 := ⟨_, Tryd.underlying170, rfl, rfl⟩
/-- A sentinel on the list. -/
theorem sent_gen {P : Program} {W : World} {n nm : String} {text : List UInt8} {g : Nat} {ti tp te ts : TypeId} {ms : Array (String × TypeId)} {f : Field} (hi : P.underlying ti = some (.interface ms)) (hrow : ∀ u, P.typeName? 3 u = some nm → u = tp)
    (hp : P.underlying tp = some (.pointer te)) (he : P.underlying te = some (.struct #[f])) (hft : f.type = ts) (hfo : f.offset = 0) (hs : P.underlying ts = some .string) (hc : P.cellsOf te = 1) (hcs : P.cellsOf ts = 1)
    (hg : P.globalNamed n = some g) (ht : (P.globals[g]?).map (·.type) = some ti) : ∀ {l : List (String × DataW Unit)}, laidMet P l W → ∀ {i : Nat}, l[i]? = some (n, .iface nm (.ptr (.agg [.lit (.string text)]))) →
    ∃ (a : Addr) (s : ByteArray), W.cell? ⟨g, 0, none⟩ = some (.iface tp (.pointer (some a))) ∧ W.cell? a = some (.string s) ∧ s.data.toList = text ∧ ∃ t cs, Blk W a.block t cs := by
  intro l
  induction l with
  | nil => intro _ i hx; cases hx
  | cons x r ih =>
    intro h i hx
    cases i with
    | succ i => exact ih (laidMet.tail h) (by simpa using hx)
    | zero =>
      have hx' : x = (n, .iface nm (.ptr (.agg [.lit (.string text)]))) := by simpa using hx
      subst hx'
      obtain ⟨ps, ⟨g0, t0, cs0, f0, p0, q0, hg0, ht0, hv0, hd0, _, e0⟩, _, hrows⟩ := h
      obtain rfl := Option.some.inj (hg.symm.trans hg0)
      obtain rfl := Option.some.inj (ht.symm.trans ht0)
      subst e0
      obtain ⟨l0⟩ := cs0
      have ok0 : ∀ u v, l0 = [.iface u v] → Value.okWide P W .any 0 u v := fun u v e => by
        subst e
        exact (hrows g 0 (by simp [MemPlace.row])).2 u v (by simpa using World.var?_cell hg0 hv0 0)
      obtain ⟨a0, s0, rfl, hc0, hs0, hz0, rfl⟩ := errorString_of_trod hi hrow hp he hft hfo hs hc hcs hd0 ok0
      obtain ⟨c, t, hb⟩ := (hrows a0.block a0.off (by simp [MemPlace.row])).1
      refine ⟨a0, s0, by simpa using World.var?_cell hg0 hv0 0, hc0, hs0, t, c.toList, ?_⟩
      unfold Blk
      simpa using hb
theorem sent_of {W : World} {n : String} {text : List UInt8} {g : Nat} {l : List (String × DataW Unit)} (h : laidMet Tryd.prog l W) {i : Nat} (hi : l[i]? = some (n, .iface errName (.ptr (.agg [.lit (.string text)]))))
    (hg : Tryd.prog.globalNamed n = some g) (ht : (Tryd.prog.globals[g]?).map (·.type) = some 55) :
    ∃ (a : Addr) (s : ByteArray), W.cell? ⟨g, 0, none⟩ = some (.iface 143 (.pointer (some a))) ∧ W.cell? a = some (.string s) ∧ s.data.toList = text ∧ ∃ t cs, Blk W a.block t cs := by
  obtain ⟨f, hf, hft, hfo⟩ := und170
  exact sent_gen Tryd.underlying55 row143 und143 hf hft hfo Tryd.underlying9 cells170 cells9 hg ht h hi
/-- Length and first byte. -/
def mark (l : List UInt8) : Nat := l.length * 256 + (l.headD 0).toNat
set_option maxRecDepth 100000 in
theorem laidPlain {W : World} (h : laidMetH Tryd.prog laidL W) : laidMet Tryd.prog laidL W := h
set_option maxRecDepth 100000 in
theorem glob_of {W : World} (h : laidMet Tryd.prog laidL W) : ∃ er, Glob W er := by
  obtain ⟨a0, s0, c0, v0, x0, b0⟩ := sent_of (g := 0) h (i := 1) rfl (by kernel_rfl) (by kernel_rfl)
  obtain ⟨a9, s9, c9, v9, x9, b9⟩ := sent_of (g := 9) h (i := 2) rfl (by kernel_rfl) (by kernel_rfl)
  obtain ⟨a5, s5, c5, v5, x5, b5⟩ := sent_of (g := 5) h (i := 4) rfl (by kernel_rfl) (by kernel_rfl)
  obtain ⟨a8, s8, c8, v8, x8, b8⟩ := sent_of (g := 8) h (i := 5) rfl (by kernel_rfl) (by kernel_rfl)
  obtain ⟨a1, s1, c1, v1, x1, b1⟩ := sent_of (g := 1) h (i := 6) rfl (by kernel_rfl) (by kernel_rfl)
  obtain ⟨a2, s2, c2, v2, x2, b2⟩ := sent_of (g := 2) h (i := 7) rfl (by kernel_rfl) (by kernel_rfl)
  obtain ⟨a3, s3, c3, v3, x3, b3⟩ := sent_of (g := 3) h (i := 8) rfl (by kernel_rfl) (by kernel_rfl)
  obtain ⟨a4, s4, c4, v4, x4, b4⟩ := sent_of (g := 4) h (i := 9) rfl (by kernel_rfl) (by kernel_rfl)
  have key : ∃ (er : Nat → Addr) (sv : Nat → ByteArray) (len : Nat → Nat), (∀ k, k < 6 ∨ k = 8 ∨ k = 9 → W.cell? ⟨k, 0, none⟩ = some (.iface 143 (.pointer (some (er k)))) ∧ W.cell? (er k) = some (.string (sv k)) ∧ mark (sv k).data.toList = len k ∧ ∃ t cs, Blk W (er k).block t cs) ∧
      (∀ j k, (j < 6 ∨ j = 8 ∨ j = 9) → (k < 6 ∨ k = 8 ∨ k = 9) → len j = len k → j = k) := by
    refine ⟨fun k => match k with | 0 => a0 | 1 => a1 | 2 => a2 | 3 => a3 | 4 => a4 | 5 => a5 | 8 => a8 | _ => a9, fun k => match k with | 0 => s0 | 1 => s1 | 2 => s2 | 3 => s3 | 4 => s4 | 5 => s5 | 8 => s8 | _ => s9,
      fun k => match k with | 0 => 837 | 1 => 6754 | 2 => 10085 | 3 => 5751 | 4 => 10083 | 5 => 4706 | 8 => 12130 | _ => 11117, ?_, ?_⟩
    · rintro k hk
      have hk' : k = 0 ∨ k = 1 ∨ k = 2 ∨ k = 3 ∨ k = 4 ∨ k = 5 ∨ k = 8 ∨ k = 9 := by omega
      rcases hk' with rfl | rfl | rfl | rfl | rfl | rfl | rfl | rfl
      · exact ⟨c0, v0, (congrArg mark x0).trans rfl, b0⟩
      · exact ⟨c1, v1, (congrArg mark x1).trans rfl, b1⟩
      · exact ⟨c2, v2, (congrArg mark x2).trans rfl, b2⟩
      · exact ⟨c3, v3, (congrArg mark x3).trans rfl, b3⟩
      · exact ⟨c4, v4, (congrArg mark x4).trans rfl, b4⟩
      · exact ⟨c5, v5, (congrArg mark x5).trans rfl, b5⟩
      · exact ⟨c8, v8, (congrArg mark x8).trans rfl, b8⟩
      · exact ⟨c9, v9, (congrArg mark x9).trans rfl, b9⟩
    · rintro j k hj hk
      have hj' : j = 0 ∨ j = 1 ∨ j = 2 ∨ j = 3 ∨ j = 4 ∨ j = 5 ∨ j = 8 ∨ j = 9 := by omega
      have hk' : k = 0 ∨ k = 1 ∨ k = 2 ∨ k = 3 ∨ k = 4 ∨ k = 5 ∨ k = 8 ∨ k = 9 := by omega
      rcases hj' with rfl | rfl | rfl | rfl | rfl | rfl | rfl | rfl <;> rcases hk' with rfl | rfl | rfl | rfl | rfl | rfl | rfl | rfl <;> simp
  obtain ⟨er, sv, len, h1, h2⟩ := key
  refine ⟨er, fun k hk => (h1 k hk).1, fun k hk => (h1 k hk).2.2.2, fun j k hj hk e => h2 j k hj hk ?_⟩
  have ej := (h1 j hj).2
  have ek := (h1 k hk).2
  rw [e, ek.1] at ej
  have : sv k = sv j := by have := ej.1; injection this with this; injection this
  rw [← ek.2.1, ← ej.2.1, this]
/-- The shelf's numbers, here. -/
def u8ren : Shelf.Ren := ⟨id, fun t => match t with | 5 => 5 | 119 => 137 | 138 => 139 | 139 => 140 | t => t, fun g => match g with | 3 => 10 | 4 => 11 | g => g⟩
set_option maxRecDepth 100000 in
theorem tabs_of {W : World} (h : laidMet Tryd.prog laidL W) : Lib.Utf8Tabs 10 11 W :=
  utf8Tabs_of_readsT (ρ := u8ren) ⟨by kernel_rfl, by kernel_rfl, by kernel_rfl, by kernel_rfl⟩ ⟨by kernel_rfl, by kernel_rfl, by kernel_rfl, by kernel_rfl, by kernel_rfl, by kernel_rfl, by kernel_rfl⟩
    (Lib.laidMet.reads h (.tail _ (.tail _ (.tail _ (.tail _ (.tail _ (.tail _ (.tail _ (.tail _ (.tail _ (.tail _ (.head _)))))))))))) (Lib.laidMet.reads h (.head _))
end Go.Proofs.YtcdhbfhijkdfoaaDoor
