/-
  The state of a csv.Reader in memory.
-/
import Derived.Test.YtcdhbfhijkdfoaaDoorRs
import Derived.Test.YtcdhbfhijkdfoaaDoorAp
namespace Go.Proofs.YtcdhbfhijkdfoaaDoor
open Go.EC Go.RowKit

/-- The fields of a csv.Reader, and where its parts lie. -/
structure Fld where
  cm : Int
  ct : Int
  fpr : Int
  lz : Bool
  tr : Bool
  re : Bool
  tc : Bool
  b : Nat
  nl : Int
  off : Int
  raw : Value
  rec_ : Value
  idx : Value
  psn : Value
  last : Value
def Fld.cells (x : Fld) : List Value :=
  [.int .i32 x.cm, .int .i32 x.ct, .int .i64 x.fpr, .bool x.lz, .bool x.tr, .bool x.re, .bool x.tc, .pointer (some ⟨x.b, 0, none⟩), .int .i64 x.nl, .int .i64 x.off, x.raw, x.rec_, x.idx, x.psn, x.last]
def CBlk (w : World) (a : Nat) (x : Fld) : Prop := Blk w a 71 [.int .i32 x.cm, .int .i32 x.ct, .int .i64 x.fpr, .bool x.lz, .bool x.tr, .bool x.re, .bool x.tc, .pointer (some ⟨x.b, 0, none⟩), .int .i64 x.nl, .int .i64 x.off, x.raw, x.rec_, x.idx, x.psn, x.last]

/-- The bufio.Reader at a point where the text p is still to be read. -/
def Src (w : World) (b g s r : Nat) (str : ByteArray) (p : Bytes) : Prop :=
  ∃ u rest cs q lb lr i prev, BS w b g s .nilIface u rest cs r q lb lr str i prev ∧ p = u ++ rest

theorem eT5 : ElemT Tryd.prog 62 5 1 1 := ⟨Tryd.underlying62, by
  have h : (Tryd.prog.info? 5).map (fun i => (i.zero, i.size, i.bytes)) = some (some (.int .u8 0), 1, 1) := by kernel_rfl
  obtain ⟨i, hi, h2⟩ := Option.map_eq_some_iff.1 h
  simp only [Prod.mk.injEq] at h2
  exact ⟨i, _, hi, h2.1, h2.2.1, h2.2.2, rfl⟩, by decide⟩

theorem ptrE : PtrT Tryd.prog 143 170 := ⟨by kernel_rfl, by
  have h : (Tryd.prog.info? 143).map (fun i => i.comparable) = some true := by kernel_rfl
  obtain ⟨i, hi, h2⟩ := Option.map_eq_some_iff.1 h
  exact ⟨i, hi, h2⟩, by
  have h : (Tryd.prog.info? 170).map (fun i => i.size) = some 1 := by kernel_rfl
  obtain ⟨i, hi, h2⟩ := Option.map_eq_some_iff.1 h
  exact ⟨i, hi, by omega⟩⟩
section
variable {w w' : World} {er : Nat → Addr} {S : Nat → Prop}
theorem Glob.only (h : Glob w er) (ho : Only S w w') (hS : ∀ k, S k → ∀ j, (j < 6 ∨ j = 8 ∨ j = 9) → k ≠ j ∧ k ≠ (er j).block) : Glob w' er := by
  refine ⟨fun k hk => ?_, fun k hk => ?_, h.inj⟩
  · have hc := h.cell k hk
    exact (World.cell?_of_block (ho.block k (cell_lt hc) (fun hs => (hS k hs k hk).1 rfl))).trans hc
  · obtain ⟨t, cs, hb⟩ := h.lt k hk
    exact ⟨t, cs, hb.only ho fun hs => (hS _ hs k hk).2 rfl⟩
theorem Glob.below {B : Nat} (h : Glob w er) (hb : Below B w w') (h1 : 13 ≤ B) (h2 : ∀ j, (j < 6 ∨ j = 8 ∨ j = 9) → (er j).block < B) : Glob w' er := by
  refine ⟨fun k hk => ?_, fun k hk => ?_, h.inj⟩
  · have hc := h.cell k hk
    exact (World.cell?_of_block (hb.block k (by omega))).trans hc
  · obtain ⟨t, cs, hc⟩ := h.lt k hk
    exact ⟨t, cs, hc.below hb (h2 k hk)⟩
end
end Go.Proofs.YtcdhbfhijkdfoaaDoor
