/-
  The state of a csv.Reader while a record is read.
-/
import Derived.Test.YtcdhbfhijkdfoaaDoorIr
import Derived.Test.YtcdhbfhijkdfoaaDoorPm
namespace Go.Proofs.YtcdhbfhijkdfoaaDoor
open Go.EC Go.RowKit

/-- The reader's own blocks. -/
def Blks (a g s : Nat) (x : Fld) : Nat → Prop := fun k => k = a ∨ k = x.b ∨ k = g ∨ k = s ∨ x.raw.ownBlock = some k ∨ x.rec_.ownBlock = some k ∨ x.idx.ownBlock = some k ∨ x.psn.ownBlock = some k
theorem Blks.of_rl {a g s : Nat} {x : Fld} {k : Nat} (h : RlS a x.b g s x.raw k) : Blks a g s x k := by
  rcases h with h | (h | h | h) | h
  · exact .inl h
  · exact .inr (.inl h)
  · exact .inr (.inr (.inl h))
  · exact .inr (.inr (.inr (.inl h)))
  · exact .inr (.inr (.inr (.inr (.inl h))))
/-- What readRecord has gathered: rb in the record buffer, ix the ends of the fields. -/
structure RrS (w : World) (Bs a g s : Nat) (x : Fld) (str : ByteArray) (r : Nat) (p : Bytes) (rb : Bytes) (ix : List Nat) (np : Nat) : Prop where
  rd : RdS w Bs a g s x str r p
  rcb : Own w 5 1 x.rec_ rb.length (rb.map bv)
  recg : x.rec_.ownBlock ≠ some g
  recr : ∀ k, x.rec_.ownBlock = some k → x.raw.ownBlock ≠ some k
  idx : Own w 3 1 x.idx ix.length (ix.map fun n : Nat => Value.int .i64 ((n : Nat) : Int))
  psn : ∃ xs, Own w 85 2 x.psn np xs
  lo : (∀ k, x.rec_.ownBlock = some k → Bs ≤ k) ∧ (∀ k, x.idx.ownBlock = some k → Bs ≤ k) ∧ (∀ k, x.psn.ownBlock = some k → Bs ≤ k)

section
variable {w w' : World} {Bs a g s : Nat} {x : Fld} {str : ByteArray} {r : Nat} {p rb : Bytes} {ix : List Nat} {np : Nat} {S : Nat → Prop}
theorem RdS.only (h : RdS w Bs a g s x str r p) (ho : Only S w w') (hS : ∀ k, RlS a x.b g s x.raw k → ¬ S k) : RdS w' Bs a g s x str r p := by
  obtain ⟨n, xs, hown⟩ := h.raw
  exact ⟨h.C.only ho (hS a (.inl rfl)), h.src.only ho (hS _ (.inr (.inl (.inl rfl)))) (hS _ (.inr (.inl (.inr (.inl rfl))))) (hS _ (.inr (.inl (.inr (.inr rfl))))), ⟨n, xs, hown.only ho fun k hk => hS k (.inr (.inr hk))⟩, h.rawg, h.lo⟩
theorem RrS.only (h : RrS w Bs a g s x str r p rb ix np) (ho : Only S w w') (hS : ∀ k, Blks a g s x k → ¬ S k) : RrS w' Bs a g s x str r p rb ix np := by
  obtain ⟨xs, hp⟩ := h.psn
  exact ⟨h.rd.only ho fun k hk => hS k (.of_rl hk), h.rcb.only ho fun k hk => hS k (.inr (.inr (.inr (.inr (.inr (.inl hk)))))), h.recg, h.recr, h.idx.only ho fun k hk => hS k (.inr (.inr (.inr (.inr (.inr (.inr (.inl hk))))))), ⟨xs, hp.only ho fun k hk => hS k (.inr (.inr (.inr (.inr (.inr (.inr (.inr hk)))))))⟩, h.lo⟩
theorem RrS.new (h : RrS w Bs a g s x str r p rb ix np) (ho : Only (fun _ => False) w w') : RrS w' Bs a g s x str r p rb ix np := h.only ho fun _ _ => id
/-- Its blocks are there. -/
theorem RrS.lt (h : RrS w Bs a g s x str r p rb ix np) {k : Nat} (hk : Blks a g s x k) : k < w.heap.size := by
  obtain ⟨⟨_, hB⟩, ⟨_, hG⟩, ⟨_, hSs⟩, _, _⟩ := h.rd.src.lts
  obtain ⟨n, xs, hown⟩ := h.rd.raw
  obtain ⟨ys, hp⟩ := h.psn
  rcases hk with rfl | rfl | rfl | rfl | hk | hk | hk | hk
  · exact h.rd.C.lt
  · exact hB.lt
  · exact hG.lt
  · exact hSs.lt
  · exact hown.lt hk
  · exact h.rcb.lt hk
  · exact h.idx.lt hk
  · exact hp.lt hk
theorem RrS.bs (h : RrS w Bs a g s x str r p rb ix np) {k : Nat} (hk : Blks a g s x k) : Bs ≤ k := by
  rcases hk with rfl | rfl | rfl | rfl | hk | hk | hk | hk
  · exact h.rd.lo.1
  · exact h.rd.lo.2.1
  · exact h.rd.lo.2.2.1
  · exact h.rd.lo.2.2.2.1
  · exact h.rd.lo.2.2.2.2 k hk
  · exact h.lo.1 k hk
  · exact h.lo.2.1 k hk
  · exact h.lo.2.2 k hk
end
end Go.Proofs.YtcdhbfhijkdfoaaDoor
