/-
  What a text is read as: a relation on bytes. No program in sight.
-/
import Derived.Test.YtcdhbfhijkdfoaaDoorBk
import Derived.Lib.Index
namespace Go.Proofs.YtcdhbfhijkdfoaaDoor
open Go.EC

/-- The end of a line, or of the text. -/
def Eol (v : Bytes) : Prop := v = [] ∨ ∃ r, v = 10 :: r
/-- The delimiter's last byte first comes up at its own place behind u. -/
def FirstCm (cm u : Bytes) : Prop := ∀ i : Nat, cm.length - 1 ≤ i → i < u.length + (cm.length - 1) → (u ++ cm)[i]? ≠ cm.getLast?
/-- It does not come up in u. -/
def NoCm (cm u : Bytes) : Prop := ∀ i : Nat, cm.length - 1 ≤ i → u[i]? ≠ cm.getLast?
/-- The fields of one record: at the head of a field (none), or within quotes (what has been read of it). -/
inductive Fields (cm : Bytes) (lz : Bool) : Option Bytes → Bytes → List Bytes → List Bytes → Bytes → Prop
  | opened {r acc fs rest} : Fields cm lz (some []) r acc fs rest → Fields cm lz none (34 :: r) acc fs rest
  | plain {u v acc fs rest} : (10 : UInt8) ∉ u → (34 : UInt8) ∉ u → FirstCm cm u → Fields cm lz none v (acc ++ [u]) fs rest → Fields cm lz none (u ++ (cm ++ v)) acc fs rest
  | plainEnd {u v acc} : (10 : UInt8) ∉ u → (34 : UInt8) ∉ u → NoCm cm u → Eol v → Fields cm lz none (u ++ v) acc (acc ++ [u]) v.tail
  | more {b cur r acc fs rest} : b ≠ 34 → Fields cm lz (some (cur ++ [b])) r acc fs rest → Fields cm lz (some cur) (b :: r) acc fs rest
  | dbl {cur r acc fs rest} : Fields cm lz (some (cur ++ [34])) r acc fs rest → Fields cm lz (some cur) (34 :: 34 :: r) acc fs rest
  | close {cur v acc fs rest} : Fields cm lz none v (acc ++ [cur]) fs rest → Fields cm lz (some cur) (34 :: (cm ++ v)) acc fs rest
  | closeEnd {cur v acc} : Eol v → Fields cm lz (some cur) (34 :: v) acc (acc ++ [cur]) v.tail
  | lazyEnd {cur acc} : lz = true → Fields cm lz (some cur) [] acc (acc ++ [cur]) []
section
variable {cm : Bytes} {lz : Bool} {acc fs : List Bytes} {rest cur : Bytes}
/-- Within quotes, up to the next quote. -/
theorem Fields.skip {u s : Bytes} (hu : (34 : UInt8) ∉ u) (h : Fields cm lz (some cur) (u ++ s) acc fs rest) : Fields cm lz (some (cur ++ u)) s acc fs rest := by
  induction u generalizing cur with
  | nil => simpa using h
  | cons b u ih =>
    simp only [List.mem_cons, not_or] at hu
    have h' : Fields cm lz (some cur) (b :: (u ++ s)) acc fs rest := h
    have key : Fields cm lz (some (cur ++ [b])) (u ++ s) acc fs rest := by
      generalize hq : b :: (u ++ s) = z at h'
      cases h' with
      | more hb h2 => injection hq with h3 h4; subst h3 h4; exact h2
      | dbl h2 => injection hq with h3 h4; exact absurd h3.symm hu.1
      | close h2 => injection hq with h3 h4; exact absurd h3.symm hu.1
      | closeEnd h2 => injection hq with h3 h4; exact absurd h3.symm hu.1
      | lazyEnd h2 => cases hq
    have := ih hu.2 key
    simpa using this
end
/-- One record, ct the comment character (0: none), rn the first rune's number. -/
structure Rec (cm : Bytes) (lz : Bool) (s : Bytes) (fs : List Bytes) (rest : Bytes) : Prop where
  ne : s ≠ []
  nl : s.head? ≠ some 10
  fields : Fields cm lz none s [] fs rest
end Go.Proofs.YtcdhbfhijkdfoaaDoor
