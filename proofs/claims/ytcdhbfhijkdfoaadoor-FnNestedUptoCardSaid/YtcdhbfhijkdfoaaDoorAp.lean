/-
  append onto a row of one's own, whatever the source. No program in sight.
-/
import Derived.Test.YtcdhbfhijkdfoaaDoorEz
import Derived.Maps.AppendAt
namespace Go.EC
open Go.RowKit
/-- The slice v is a row of its own (elements of type t, of sz cells each): it holds the cells xs. -/
def Own (w : World) (t : TypeId) (sz : Nat) (v : Value) (n : Nat) (xs : List Value) : Prop := w.ownsRow 0 t sz v n xs
section
variable {P : Program} {e : Env} {w w' : World} {d : Option Nat} {ty : TypeId} {pos : String} {af : Array Edge} {gd : Option (Nat × Bool)} {t : TypeId} {sz n : Nat} {v : Value} {xs : List Value} {S : Nat → Prop}
theorem Own.nil (w : World) (t : TypeId) (sz : Nat) : Own w t sz (.slice none 0 0) 0 [] := ⟨by simp, .inl ⟨rfl, rfl⟩⟩
theorem Own.only (h : Own w t sz v n xs) (ho : Only S w w') (hS : ∀ k, v.ownBlock = some k → ¬ S k) : Own w' t sz v n xs := by
  refine ⟨h.1, ?_⟩
  rcases h.2 with h1 | ⟨g, cap, cur, rfl, hb, hh, h3⟩
  · exact .inl h1
  · have hlt : g < w.heap.size := by
      rcases Nat.lt_or_ge g w.heap.size with hl | hl
      · exact hl
      · rw [Array.getElem?_eq_none hl] at hh; cases hh
    exact .inr ⟨g, cap, cur, rfl, hb, (ho.block g hlt (hS g rfl)).trans hh, h3⟩
theorem Own.len (h : Own w t sz v n xs) : xs.length = n * sz := h.1
/-- Its form. -/
theorem Own.form (h : Own w t sz v n xs) : ∃ A c, v = .slice A n c ∧ n ≤ c ∧ c ≤ maxLen := by
  rcases h.2 with ⟨rfl, rfl⟩ | ⟨g, cap, cur, rfl, _, _, hn, hm, _⟩
  · exact ⟨none, 0, rfl, Nat.le_refl _, Nat.zero_le _⟩
  · exact ⟨_, cap, rfl, hn, hm⟩
theorem Own.one (h : Own w t sz v n xs) : v.oneCell' = true := by obtain ⟨A, c, rfl, _⟩ := h.form; rfl
theorem Own.blk (h : Own w t sz v n xs) {k : Nat} (hk : v.ownBlock = some k) : ∃ cap cur, v = .slice (some ⟨k, 0, none⟩) n cap ∧ Blk w k t cur ∧ cur.length = cap * sz ∧ cur.take (n * sz) = xs ∧ n ≤ cap ∧ cap ≤ maxLen := by
  rcases h.2 with ⟨rfl, _⟩ | ⟨g, cap, cur, rfl, _, hh, hn, hm, hs, hx⟩
  · cases hk
  · have : g = k := by simpa [Value.ownBlock] using hk
    subst this
    exact ⟨cap, cur.toList, rfl, by unfold Blk; simpa using hh, by simpa using hs, hx, hn, hm⟩
theorem Own.lt (h : Own w t sz v n xs) {k : Nat} (hk : v.ownBlock = some k) : k < w.heap.size := by
  obtain ⟨_, _, _, hb, _⟩ := h.blk hk
  exact hb.lt
theorem Own.ne (h : Own w t sz v n xs) {g : Nat} {t' : TypeId} {cs : List Value} (hb : Blk w g t' cs) (hne : t ≠ t') : v.ownBlock ≠ some g := fun hk => by
  obtain ⟨_, _, _, hb', _⟩ := h.blk hk
  exact hb'.ne hb hne rfl
/-- s[:0] -/
theorem Own.cut0 (h : Own w t sz v n xs) : ∃ A c, v = .slice A n c ∧ Own w t sz (.slice A 0 c) 0 [] ∧ (Value.slice A 0 c).ownBlock = v.ownBlock := by
  rcases h.2 with ⟨rfl, rfl⟩ | ⟨g, cap, cur, rfl, hb, hh, hn, hm, hs, hx⟩
  · exact ⟨none, 0, rfl, Own.nil _ _ _, rfl⟩
  · exact ⟨_, cap, rfl, ⟨by simp, .inr ⟨g, cap, cur, rfl, hb, hh, Nat.zero_le _, hm, hs, by simp⟩⟩, rfl⟩
/-- Its cells. -/
theorem Own.cell (h : Own w t sz v n xs) {A : Option Addr} {c : Nat} (hv : v = .slice A n c) (hx : xs ≠ []) : ∃ g, A = some ⟨g, 0, none⟩ ∧ v.ownBlock = some g ∧ ∀ j u, xs[j]? = some u → w.cell? ⟨g, j, none⟩ = some u := by
  rcases h.2 with ⟨rfl, rfl⟩ | ⟨g, cap, cur, rfl, hb, hh, hn, hm, hs, hxs⟩
  · have := h.1; simp at this; exact absurd this hx
  · injection hv with h1 h2 h3
    refine ⟨g, h1.symm, rfl, fun j u hu => ?_⟩
    rw [← hxs, List.getElem?_take] at hu
    split at hu
    · have : w.cell? ⟨g, j, none⟩ = cur[j]? := by simp [World.cell?, hh]
      rw [this]; simpa using hu
    · cases hu

/-- What the program's tables say of a slice type's elements. -/
structure ElemT (P : Program) (ts t : TypeId) (sz by_ : Nat) : Prop where
  und : P.underlying ts = some (.slice t)
  info : ∃ i z, P.info? t = some i ∧ i.zero = some z ∧ i.size = sz ∧ i.bytes = by_ ∧ z.cells.size = sz
  pos : 0 < sz
/-- The cells news lie behind A. -/
def Cells (w : World) (A : Option Addr) (news : List Value) : Prop := news ≠ [] → ∃ g o, A = some ⟨g, o, none⟩ ∧ ∀ j u, news[j]? = some u → w.cell? ⟨g, o + j, none⟩ = some u
theorem x_append {x y : Operand} {ts : TypeId} {by_ m c : Nat} {A : Option Addr} {news : List Value} (hT : ElemT P ts t sz by_) (hx : ev e x = v) (hy : ev e y = .slice A m c) (hown : Own w t sz v n xs) (hl : news.length = m * sz) (hA : Cells w A news) (h1 : ∀ u ∈ news, u.oneCell' = true)
    (hb : (n + m) * by_ ≤ 140737488355328) (hb2 : n + m ≤ maxLen) :
    ∃ v' w', (execOp (ev e) ⟨d, .call { callee := .builtin .append, args := #[x, y], argTypes := #[ts, ts] }, ty, pos, af, gd⟩).run P w = .ok (.value v') w' ∧ Own w' t sz v' (n + m) (xs ++ news) ∧ Only (fun k => v.ownBlock = some k) w w' ∧ (v'.ownBlock = v.ownBlock ∨ v'.ownBlock = some w.heap.size) := by
  obtain ⟨hu, ⟨i, z, hi, hz, hsz, hby, hzs⟩, hpos⟩ := hT
  have fin : ∀ v' w', (Builtin.append_ #[ts, ts] ty #[v, .slice A m c]).run P w = .ok v' w' → Own w' t sz v' (n + m) (xs ++ news) → w.grownBy w' v.ownBlock → (v'.ownBlock = v.ownBlock ∨ v'.ownBlock = some w.heap.size) →
      ∃ v' w', (execOp (ev e) ⟨d, .call { callee := .builtin .append, args := #[x, y], argTypes := #[ts, ts] }, ty, pos, af, gd⟩).run P w = .ok (.value v') w' ∧ Own w' t sz v' (n + m) (xs ++ news) ∧ Only (fun k => v.ownBlock = some k) w w' ∧ (v'.ownBlock = v.ownBlock ∨ v'.ownBlock = some w.heap.size) := by
    intro v' w' hrun ho hg hat
    refine ⟨v', w', ?_, ho, ⟨hg.os, hg.tape, hg.output, hg.size, fun k hk hn => hg.block k hk (fun e => hn e.symm)⟩, hat⟩
    simp [execOp, resolve, invoke, builtin, hx, hy, hrun]
  rcases A with _ | ad
  · have hn : news = [] := by
      by_cases hn : news = []
      · exact hn
      · obtain ⟨_, _, h, _⟩ := hA hn; cases h
    subst hn
    have hm : m = 0 := by
      rcases Nat.eq_zero_or_pos m with h0 | h0
      · exact h0
      · have := Nat.mul_pos h0 hpos; simp at hl; omega
    subst hm
    refine fin v w ?_ (by simpa using hown) ⟨rfl, rfl, rfl, Nat.le_refl _, fun _ _ _ => rfl⟩ (.inl rfl)
    rcases hown.2 with ⟨rfl, rfl⟩ | ⟨g, cap, cur, rfl, _, _, hnc, _⟩
    · simp [Builtin.append_, run_underlying hu, sizeOf, typeInfo, hi, Builtin.lenOf, Builtin.firstCells]
    · simp [Builtin.append_, run_underlying hu, sizeOf, typeInfo, hi, Builtin.lenOf, Builtin.firstCells, hnc, storeCells]
  · by_cases hn : news = []
    · subst hn
      obtain ⟨v', w', hrun, h2, h3, _, h5⟩ := run_append_own_at (P := P) w 0 ts ty t i z sz by_ hu hi hz hsz hby hzs hpos v n xs hown ad m c [] hl (by simp) (by simp) hb2 hb (Nat.zero_le _)
      exact fin v' w' hrun h2 h3 h5
    · obtain ⟨g, o, hA', hc⟩ := hA hn
      injection hA' with hA'
      subst hA'
      obtain ⟨v', w', hrun, h2, h3, _, h5⟩ := run_append_own_at (P := P) w 0 ts ty t i z sz by_ hu hi hz hsz hby hzs hpos v n xs hown ⟨g, o, none⟩ m c news hl (fun j u hu => by rw [add_none]; exact hc j u hu) h1 hb2 hb (Nat.zero_le _)
      exact fin v' w' hrun h2 h3 h5
end
end Go.EC
