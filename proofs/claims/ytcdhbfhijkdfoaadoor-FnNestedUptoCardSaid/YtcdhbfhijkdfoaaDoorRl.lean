/-
  (*csv.Reader).readLine: the next line, with its end made plain.
-/
import Derived.Test.YtcdhbfhijkdfoaaDoorCs
namespace Go.Proofs.YtcdhbfhijkdfoaaDoor
open Go.EC Go.RowKit

/-- The reader as readLine sees it. -/
structure RdS (w : World) (Bs a g s : Nat) (x : Fld) (str : ByteArray) (r : Nat) (p : Bytes) : Prop where
  C : CBlk w a x
  src : Src w x.b g s r str p
  raw : ∃ n xs, Own w 5 1 x.raw n xs
  rawg : x.raw.ownBlock ≠ some g
  lo : Bs ≤ a ∧ Bs ≤ x.b ∧ Bs ≤ g ∧ Bs ≤ s ∧ ∀ k, x.raw.ownBlock = some k → Bs ≤ k
/-- Where the line lies. -/
structure LineAt (w : World) (g : Nat) (raw : Value) (r : Nat) (A : Option Addr) (c : Nat) (L : Bytes) : Prop where
  cap : L.length ≤ c
  cells : L ≠ [] → ∃ gA o csA, A = some ⟨gA, o, none⟩ ∧ Blk w gA 5 csA ∧ (∀ j b, L[j]? = some b → csA[o + j]? = some (bv b)) ∧ ((gA = g ∧ o + L.length ≤ r) ∨ raw.ownBlock = some gA)
theorem LineAt.at_ {w : World} {g : Nat} {raw : Value} {r : Nat} {A : Option Addr} {c : Nat} {L : Bytes} (h : LineAt w g raw r A c L) : At w A L := fun hn => by
  obtain ⟨gA, o, csA, hA, hb, hc, _⟩ := h.cells hn
  exact ⟨gA, o, hA, fun j b hj => hb.cell _ (hc j b hj)⟩
/-- The blocks that readLine writes. -/
def RlS (a b g s : Nat) (raw : Value) : Nat → Prop := fun k => k = a ∨ Three b g s k ∨ raw.ownBlock = some k
/-- A raw line and what follows it: k = 0 with its newline, k = 1 at the end of the text. -/
def RawEnds (k : Nat) (L p' : Bytes) : Prop := (k = 0 ∧ ∃ L0, L = L0 ++ [10] ∧ (10 : UInt8) ∉ L0) ∨ (k = 1 ∧ p' = [] ∧ (10 : UInt8) ∉ L)

section
variable {w w' : World} {Bs a g s : Nat} {x : Fld} {str : ByteArray} {r : Nat} {p : Bytes}
theorem RdS.drew (h : RdS w Bs a g s x str r p) : RdS (dr w) Bs a g s x str r p := by
  obtain ⟨u, rest, cs, q, lb, lr, i, prev, hb, hp⟩ := h.src
  obtain ⟨n, xs, ho⟩ := h.raw
  exact ⟨h.C, ⟨u, rest, cs, q, lb, lr, i, prev, hb.drew, hp⟩, ⟨n, xs, ho⟩, h.rawg, h.lo⟩
end
/-- What the first half of readLine leaves: the raw line. -/
def RlM (Bs a g s : Nat) (x : Fld) (str : ByteArray) (p : Bytes) (er : Nat → Addr) (w0 : World) (e : Env) (w : World) : Prop :=
  ∃ (k : Nat) (raw' : Value) (r' : Nat) (L p' : Bytes) (A : Option Addr) (c : Nat), RdS w Bs a g s { x with raw := raw' } str r' p' ∧ LineAt w g raw' r' A c L ∧ p = L ++ p' ∧ RawEnds k L p' ∧
    e 0 = .pointer (some ⟨a, 0, none⟩) ∧ e 4 = .slice A L.length c ∧ e 5 = endErr er k ∧ Only (RlS a x.b g s x.raw) w0 w ∧ (raw'.ownBlock = x.raw.ownBlock ∨ ∃ k, raw'.ownBlock = some k ∧ w0.heap.size ≤ k)

theorem readLine_direct (Bs a g s : Nat) (x : Fld) (str : ByteArray) (p : Bytes) (er : Nat → Addr) (w0 w : World) (k : Nat) (r' : Nat) (L p' : Bytes) (A : Option Addr) (c : Nat) (hk : k = 0 ∨ k = 1) (E : Value) (hE : E = endErr er k) (hG : Glob w er) (f : Env)
    (h : RdS w Bs a g s x str r' p') (hL : LineAt w g x.raw r' A c L) (hp : p = L ++ p') (hR : RawEnds k L p') (hO : Only (RlS a x.b g s x.raw) w0 w) :
    W Tryd.prog Tryd.f45.ntmps (fstC (sndC (sndC (bodyOf Tryd.f45)))) (thn (RlM Bs a g s x str p er w0) fun _ _ _ => False) (upd (upd (upd f 0 (.pointer (some ⟨a, 0, none⟩))) 4 (.slice A L.length c)) 5 E) w := by
  have hG5 : w.cell? ⟨5, 0, none⟩ = some (errV er 5) := hG.cell 5 (by omega)
  conv => arg 3; whnf
  rcases hk with rfl | rfl
  · rw [endErr_0] at hE
    subst hE
    refine W_seq ?_
    refine W_region ?_
    refine V (x_move (by conv => lhs; whnf)) rfl ?_
    refine V (x_load ld55 rfl hG5) rfl ?_
    refine V (x_eql_nil_held Tryd.underlying55 rfl rfl) rfl ?_
    refine WL_nil ?_
    refine W_false (rfl) ?_
    refine W_skip ?_
    repeat (first | with_reducible refine xt ?_ | with_reducible refine xb ?_ | with_reducible refine nt ?_ | with_reducible refine nb ?_ | with_reducible refine xn rfl ?_)
    exact ⟨0, x.raw, r', L, p', A, c, h, hL, hp, hR, rfl, rfl, (endErr_0 er).symm, hO, .inl rfl⟩
  · rw [endErr_1] at hE
    subst hE
    obtain ⟨t0, cs0, hb0⟩ := hG.lt 0 (by omega)
    obtain ⟨t5, cs5, hb5⟩ := hG.lt 5 (by omega)
    have hne : er 0 ≠ er 5 := fun hh => by
      have := hG.inj 0 5 (by omega) (by omega) (by simpa using hh)
      omega
    refine W_seq ?_
    refine W_region ?_
    refine V (x_move (by conv => lhs; whnf)) rfl ?_
    refine V (x_load ld55 rfl hG5) rfl ?_
    refine V (x_eql_other Tryd.underlying55 ptrE rfl rfl hne hb0 hb5) rfl ?_
    refine WL_nil ?_
    refine W_false (rfl) ?_
    refine W_skip ?_
    repeat (first | with_reducible refine xt ?_ | with_reducible refine xb ?_ | with_reducible refine nt ?_ | with_reducible refine nb ?_ | with_reducible refine xn rfl ?_)
    exact ⟨1, x.raw, r', L, p', A, c, h, hL, hp, hR, rfl, rfl, (endErr_1 er).symm, hO, .inl rfl⟩

section
variable {w w' : World} {Bs a g s : Nat} {x : Fld} {str : ByteArray} {r : Nat} {p : Bytes} {S : Nat → Prop}
theorem Src.only {b : Nat} (h : Src w b g s r str p) (ho : Only S w w') (hb : ¬ S b) (hg : ¬ S g) (hs : ¬ S s) : Src w' b g s r str p := by
  obtain ⟨u, rest, cs, q, lb, lr, i, prev, h1, hp⟩ := h
  exact ⟨u, rest, cs, q, lb, lr, i, prev, ⟨h1.B.only ho hb, h1.G.only ho hg, h1.S.only ho hs, h1.buf, h1.rest, h1.le, h1.small⟩, hp⟩
theorem Src.lts {b : Nat} (h : Src w b g s r str p) : (∃ cs, Blk w b 121 cs) ∧ (∃ cs, Blk w g 5 cs) ∧ (∃ cs, Blk w s 78 cs) ∧ p.length ≤ 2147487744 ∧ (∃ c1, Blk w g 5 c1 ∧ c1.length = 4096) := by
  obtain ⟨u, rest, cs, q, lb, lr, i, prev, h1, hp⟩ := h
  refine ⟨⟨_, h1.B⟩, ⟨_, h1.G⟩, ⟨_, h1.S⟩, ?_, ⟨_, h1.G, h1.buf.len⟩⟩
  have h2 := h1.rlen
  have h3 := h1.small
  have h4 := h1.buf.eq
  have h5 := h1.buf.le
  rw [hp, List.length_append]
  omega
/-- An append to the raw buffer, stored back. -/
theorem RdS.app (h : RdS w Bs a g s x str r p) {v0 v' : Value} {n0 n1 : Nat} {xs0 xs1 : List Value} (h0 : Own w 5 1 v0 n0 xs0) (hb : v0.ownBlock = x.raw.ownBlock) (h1 : Own w' 5 1 v' n1 xs1) (ho : Only (fun k => v0.ownBlock = some k) w w') (hat : v'.ownBlock = v0.ownBlock ∨ v'.ownBlock = some w.heap.size) :
    CBlk w' a x ∧ RdS (w'.setCell ⟨a, 10, none⟩ v') Bs a g s { x with raw := v' } str r p ∧ Own (w'.setCell ⟨a, 10, none⟩ v') 5 1 v' n1 xs1 ∧ Only (RlS a x.b g s x.raw) w (w'.setCell ⟨a, 10, none⟩ v') := by
  obtain ⟨⟨_, hB⟩, ⟨_, hGg⟩, ⟨_, hS⟩, _, _⟩ := h.src.lts
  have na : v0.ownBlock ≠ some a := h0.ne h.C (by decide)
  have nb : v0.ownBlock ≠ some x.b := h0.ne hB (by decide)
  have ns : v0.ownBlock ≠ some s := h0.ne hS (by decide)
  have ng : v0.ownBlock ≠ some g := by rw [hb]; exact h.rawg
  have hC : CBlk w' a x := h.C.only ho na
  have na' : v'.ownBlock ≠ some a := h1.ne hC (by decide)
  have hst : Only (· = a) w' (w'.setCell ⟨a, 10, none⟩ v') := Only.setCell (· = a) _ rfl _
  have hsrc := h.src.only ho nb ng ns
  have eb : x.b ≠ a := fun e => by rw [e] at hB; exact hB.ne h.C (by decide) rfl
  have eg : g ≠ a := fun e => by rw [e] at hGg; exact hGg.ne h.C (by decide) rfl
  have es : s ≠ a := fun e => by rw [e] at hS; exact hS.ne h.C (by decide) rfl
  have hown := h1.only hst fun k hk hka => na' (by rw [hk, hka])
  refine ⟨hC, ⟨hC.set 10 v', hsrc.only hst eb eg es, ⟨_, _, hown⟩, ?_, ?_⟩, hown, ?_⟩
  · show v'.ownBlock ≠ some g
    rcases hat with e | e
    · rw [e]; exact ng
    · rw [e]; intro hh; have := hGg.lt; injection hh with hh; omega
  · refine ⟨h.lo.1, h.lo.2.1, h.lo.2.2.1, h.lo.2.2.2.1, fun k hk => ?_⟩
    have hk' : v'.ownBlock = some k := hk
    rcases hat with e | e
    · rw [e, hb] at hk'; exact h.lo.2.2.2.2 k hk'
    · rw [e] at hk'; injection hk' with hk'; have := h.C.lt; have := h.lo.1; omega
  · exact (ho.mono fun k _ hk => .inr (.inr (by rw [← hb]; exact hk))).trans (Only.setCell _ _ (.inl rfl) _)
end
theorem RlS_mono {a b g s : Nat} {v v' : Value} (w : World) (h : v'.ownBlock = v.ownBlock ∨ ∃ k, v'.ownBlock = some k ∧ w.heap.size ≤ k) : ∀ k, k < w.heap.size → RlS a b g s v' k → RlS a b g s v k := by
  intro k hk hs
  rcases hs with h1 | h1 | h1
  · exact .inl h1
  · exact .inr (.inl h1)
  · rcases h with e | ⟨k', e, hk'⟩
    · exact .inr (.inr (by rw [← e]; exact h1))
    · rw [e] at h1; injection h1 with h1; omega

/-- What the loop over full buffers keeps. -/
def RfI (Bs a g s : Nat) (x : Fld) (str : ByteArray) (p : Bytes) (er : Nat → Addr) (w0 : World) (K : Nat) (e : Env) (w : World) : Prop :=
  ∃ (k : Nat) (raw' : Value) (r' : Nat) (acc p' : Bytes), RdS w Bs a g s { x with raw := raw' } str r' p' ∧ Own w 5 1 raw' acc.length (acc.map bv) ∧ p = acc ++ p' ∧ (RawEnds k acc p' ∨ (k = 2 ∧ (10 : UInt8) ∉ acc)) ∧
    e 0 = .pointer (some ⟨a, 0, none⟩) ∧ e 5 = endErr er k ∧ Only (RlS a x.b g s x.raw) w0 w ∧ (raw'.ownBlock = x.raw.ownBlock ∨ ∃ k, raw'.ownBlock = some k ∧ w0.heap.size ≤ k) ∧ K = p'.length + (if k = 2 then 1 else 0)
/-- What it leaves. -/
def RfM (Bs a g s : Nat) (x : Fld) (str : ByteArray) (p : Bytes) (er : Nat → Addr) (w0 : World) (e : Env) (w : World) : Prop :=
  ∃ (k : Nat) (raw' : Value) (r' : Nat) (acc p' : Bytes), RdS w Bs a g s { x with raw := raw' } str r' p' ∧ Own w 5 1 raw' acc.length (acc.map bv) ∧ p = acc ++ p' ∧ RawEnds k acc p' ∧
    e 0 = .pointer (some ⟨a, 0, none⟩) ∧ e 5 = endErr er k ∧ Only (RlS a x.b g s x.raw) w0 w ∧ (raw'.ownBlock = x.raw.ownBlock ∨ ∃ k, raw'.ownBlock = some k ∧ w0.heap.size ≤ k)
theorem map_bv_one {l : Bytes} : ∀ u ∈ l.map bv, u.oneCell' = true := by
  intro u hu
  rw [List.mem_map] at hu
  obtain ⟨b, _, rfl⟩ := hu
  rfl
theorem LineAt.src {w : World} {g : Nat} {raw : Value} {r : Nat} {A : Option Addr} {c : Nat} {L : Bytes} (h : LineAt w g raw r A c L) : Cells w A (L.map bv) := fun hn => by
  obtain ⟨gA, o, hA, hc⟩ := h.at_ (by rintro rfl; simp at hn)
  refine ⟨gA, o, hA, fun j u hu => ?_⟩
  rw [List.getElem?_map] at hu
  obtain ⟨b, hb, rfl⟩ := Option.map_eq_some_iff.1 hu
  exact hc j b hb

theorem glob_rl {Bs a b g s : Nat} {raw : Value} {w0 w : World} {er : Nat → Addr} (hG : Glob w0 er) (hO : Only (RlS a b g s raw) w0 w) (hlo : Bs ≤ a ∧ Bs ≤ b ∧ Bs ≤ g ∧ Bs ≤ s ∧ ∀ k, raw.ownBlock = some k → Bs ≤ k) (hB0 : Bs ≤ w0.heap.size)
    (hBs : 13 ≤ Bs ∧ ∀ j, (j < 6 ∨ j = 8 ∨ j = 9) → (er j).block < Bs) : Glob w er := hG.below (hO.below (fun k hk => by
  rcases hk with rfl | hk | hk
  · exact hlo.1
  · rcases hk with rfl | rfl | rfl
    · exact hlo.2.1
    · exact hlo.2.2.1
    · exact hlo.2.2.2.1
  · exact hlo.2.2.2.2 k hk) hB0) hBs.1 hBs.2
theorem RdS.rs {w w4 : World} {Bs a g s : Nat} {x : Fld} {str : ByteArray} {r r4 : Nat} {p p4 : Bytes} (h : RdS w Bs a g s x str r p) (ho : Only (Three x.b g s) w w4) (h4 : Src w4 x.b g s r4 str p4) : RdS w4 Bs a g s x str r4 p4 := by
  obtain ⟨⟨_, hB⟩, ⟨_, hGg⟩, ⟨_, hS⟩, _, _⟩ := h.src.lts
  obtain ⟨n, xs, hown⟩ := h.raw
  refine ⟨h.C.only ho ?_, h4, ⟨n, xs, hown.only ho fun k hk hk3 => ?_⟩, h.rawg, h.lo⟩
  · rintro (e | e | e)
    · exact h.C.ne hB (by decide) e
    · exact h.C.ne hGg (by decide) e
    · exact h.C.ne hS (by decide) e
  · rcases hk3 with rfl | rfl | rfl
    · exact hown.ne hB (by decide) hk
    · exact h.rawg hk
    · exact hown.ne hS (by decide) hk
theorem readLine_full (Bs a g s : Nat) (x : Fld) (str : ByteArray) (p : Bytes) (er : Nat → Addr) (w0 w : World) (r' : Nat) (L p' : Bytes) (A : Option Addr) (c : Nat) (hG : Glob w er) (f : Env) (hBs : 13 ≤ Bs ∧ ∀ j, (j < 6 ∨ j = 8 ∨ j = 9) → (er j).block < Bs)
    (h : RdS w Bs a g s x str r' p') (hL : LineAt w g x.raw r' A c L) (hp : p = L ++ p') (hR : (10 : UInt8) ∉ L) (hO : Only (RlS a x.b g s x.raw) w0 w) (hp2 : p.length ≤ 2147487744) (hG0 : Glob w0 er) (hB0 : Bs ≤ w0.heap.size) :
    W Tryd.prog Tryd.f45.ntmps (fstC (sndC (sndC (bodyOf Tryd.f45)))) (thn (RlM Bs a g s x str p er w0) fun _ _ _ => False) (upd (upd (upd f 0 (.pointer (some ⟨a, 0, none⟩))) 4 (.slice A L.length c)) 5 (errV er 5)) w := by
  have hG5 : w.cell? ⟨5, 0, none⟩ = some (errV er 5) := hG.cell 5 (by omega)
  have hpl : L.length + p'.length ≤ 2147487744 := by rw [hp, List.length_append] at hp2; exact hp2
  obtain ⟨n0, xs0, hown⟩ := h.raw
  obtain ⟨A0, c0, hraw, hown0, hblk0⟩ := hown.cut0
  have hC := h.C
  unfold CBlk at hC
  rw [hraw] at hC
  conv => arg 3; whnf
  refine W_seq ?_
  refine W_region ?_
  refine V (x_move (by conv => lhs; whnf)) rfl ?_
  refine V (x_load ld55 rfl hG5) rfl ?_
  refine V (x_eql_same Tryd.underlying55 ptrE rfl rfl) rfl ?_
  refine WL_nil ?_
  refine W_true (rfl) ?_
  refine W_seq ?_
  refine W_region ?_
  refine V (x_move (by conv => lhs; whnf)) rfl ?_
  refine V (x_move (by conv => lhs; whnf)) rfl ?_
  refine V (x_nilc rfl) rfl ?_
  refine V (x_field0 fa71_10 rfl) rfl ?_
  refine V (x_load ld62 rfl ((hC).cell 10 rfl)) rfl ?_
  refine V (x_slice_h (h := 0) Tryd.underlying62 ⟨1, sz5⟩ rfl rfl rfl (Nat.zero_le _)) rfl ?_
  refine V (x_move (by conv => lhs; whnf)) rfl ?_
  refine VE (x_append eT5 (by conv => lhs; whnf) (by conv => lhs; whnf) hown0 (by simp) hL.src map_bv_one (by omega) (by unfold maxLen; omega)) rfl ?_
  rintro raw1 w1 ⟨hown1, ho1, hat1⟩
  obtain ⟨hC1, h1, hown1', hO1⟩ := h.app hown0 hblk0 hown1 ho1 hat1
  refine V (x_nilc rfl) rfl ?_
  refine V (x_field0 fa71_10 rfl) rfl ?_
  refine S (x_store st62 rfl (by conv => lhs; whnf) hown1.one (hC1.cell 10 rfl) (hC1.free 10)) ?_
  refine WL_nil ?_
  rw [Nat.zero_add, List.nil_append] at hown1'
  have hrel : raw1.ownBlock = x.raw.ownBlock ∨ ∃ k, raw1.ownBlock = some k ∧ w0.heap.size ≤ k := by
    rcases hat1 with e | e
    · exact .inl (e.trans hblk0)
    · exact .inr ⟨_, e, hO.size⟩
  have hlo := h.lo
  generalize hw2 : w1.setCell ⟨a, 10, none⟩ raw1 = w2 at h1 hown1' hO1 ⊢
  refine W_cut (RfM Bs a g s x str p er w0) ?_ ?_
  · refine W_block ?_
    refine W_loop (RfI Bs a g s x str p er w0) (k0 := p'.length + 1) ⟨2, raw1, r', L, p', h1, hown1', hp, .inr ⟨rfl, hR⟩, rfl, (endErr_2 er).symm, hO.trans hO1, hrel, by simp⟩ ?_
    clear hown1' hO1 h1 hown1 ho1 hat1 hC1 hC hown0 hown hL h hrel hw2
    rintro K e w3 ⟨k, raw3, r3, acc, p3, h3, hown3, hp3, hE3, e0, e5, hO3, hrel3, rfl⟩
    have hG3 : Glob w3 er := glob_rl hG0 hO3 hlo hB0 hBs
    have hpl3 : acc.length + p3.length ≤ 2147487744 := by rw [hp3, List.length_append] at hp2; exact hp2
    rw [← upd_self e0, ← upd_self (e := upd e 0 _) (d := 5) e5]
    have hG35 : w3.cell? ⟨5, 0, none⟩ = some (errV er 5) := hG3.cell 5 (by omega)
    by_cases hk2 : k = 2
    · subst hk2
      rw [endErr_2]
      have hno : (10 : UInt8) ∉ acc := by
        rcases hE3 with (⟨hh, _⟩ | ⟨hh, _⟩) | ⟨_, hh⟩
        · cases hh
        · cases hh
        · exact hh
      obtain ⟨u, rest, cs, q, lb, lr, i, prev, hbs, hpu⟩ := h3.src
      refine W_seq ?_
      refine W_seq ?_
      refine W_region ?_
      refine V (x_move (by conv => lhs; whnf)) rfl ?_
      refine V (x_load ld55 rfl hG35) rfl ?_
      refine V (x_eql_same Tryd.underlying55 ptrE rfl rfl) rfl ?_
      refine WL_nil ?_
      refine W_true (rfl) ?_
      refine W_skip ?_
      refine W_block ?_
      refine W_seq ?_
      refine W_region ?_
      refine V (x_move (by conv => lhs; whnf)) rfl ?_
      refine V (x_nilc rfl) rfl ?_
      refine V (x_field0 fa71_7 rfl) rfl ?_
      refine V (x_load ld68 rfl ((h3.C).cell 7 rfl)) rfl ?_
      refine C (x_call2 cf58 (by conv => lhs; whnf) (by conv => lhs; whnf)) rfl ?_
      refine (ReadSlice_ok x.b g s u rest cs r3 q lb lr str i prev er w3 hbs (hG3.cell 0 (by omega)) hG35 (by omega) (by omega) (by omega)).mono ?_
      rintro v w4 ⟨k4, L4, u4, rest4, cs4, r4, q4, i4, prev4, lb4, lr4, A4, c4, rfl, hbs4, hpp4, hE4, hL4, hO4⟩
      have h4 := h3.rs hO4 (r4 := r4) (p4 := u4 ++ rest4) ⟨u4, rest4, cs4, q4, lb4, lr4, i4, prev4, hbs4, rfl⟩
      have hp4 : p3 = L4 ++ (u4 ++ rest4) := hpu.trans hpp4
      have hpl4 : L4.length + (u4 ++ rest4).length = p3.length := by rw [hp4]; simp
      have hla4 : LineAt w4 g raw3 r4 A4 c4 L4 := ⟨hL4.cap, fun hn => by obtain ⟨o, h1, h2, h3⟩ := hL4.cells hn; exact ⟨g, o, cs4, h1, hbs4.G, h3, .inl ⟨rfl, h2⟩⟩⟩
      have hown4 : Own w4 5 1 raw3 acc.length (acc.map bv) := hown3.only hO4 (fun k hk hk3 => by rcases hk3 with rfl | rfl | rfl <;> first | exact hown3.ne hbs.B (by decide) hk | exact h3.rawg hk | exact hown3.ne hbs.S (by decide) hk)
      refine V (x_move (by conv => lhs; whnf)) rfl ?_
      refine V (x_extract rfl rfl) rfl ?_
      refine V (x_extract rfl rfl) rfl ?_
      refine V (x_assign (by conv => lhs; whnf)) rfl ?_
      refine V (x_assign (by conv => lhs; whnf)) rfl ?_
      refine WL_nil ?_
      refine W_region ?_
      refine V (x_move (by conv => lhs; whnf)) rfl ?_
      refine V (x_move (by conv => lhs; whnf)) rfl ?_
      refine V (x_nilc rfl) rfl ?_
      refine V (x_field0 fa71_10 rfl) rfl ?_
      refine V (x_load ld62 rfl ((h4.C).cell 10 rfl)) rfl ?_
      refine V (x_move (by conv => lhs; whnf)) rfl ?_
      refine VE (x_append eT5 (by conv => lhs; whnf) (by conv => lhs; whnf) hown4 (by simp) hla4.src map_bv_one (by omega) (by unfold maxLen; omega)) rfl ?_
      rintro raw5 w5 ⟨hown5, ho5, hat5⟩
      obtain ⟨hC5, h5, hown5', hO5⟩ := h4.app hown4 rfl hown5 ho5 hat5
      refine V (x_nilc rfl) rfl ?_
      refine V (x_field0 fa71_10 rfl) rfl ?_
      refine S (x_store st62 rfl (by conv => lhs; whnf) hown5.one (hC5.cell 10 rfl) (hC5.free 10)) ?_
      refine WL_nil ?_
      repeat (first | with_reducible refine xt ?_ | with_reducible refine xb ?_ | with_reducible refine nt ?_ | with_reducible refine nb ?_ | with_reducible refine xn rfl ?_)
      rw [← List.map_append, ← List.length_append] at hown5'
      refine ⟨(u4 ++ rest4).length + (if k4 = 2 then 1 else 0), ?_, k4, raw5, r4, acc ++ L4, u4 ++ rest4, h5, hown5', by rw [hp3, hp4, List.append_assoc], ?_, rfl, rfl, ?_, ?_, rfl⟩
      · rcases hE4 with ⟨rfl, _⟩ | ⟨rfl, _⟩ | ⟨rfl, hl, _⟩
        · rw [if_neg (by decide), if_pos rfl]; omega
        · rw [if_neg (by decide), if_pos rfl]; omega
        · rw [if_pos rfl]; omega
      · rcases hE4 with ⟨rfl, L0, rfl, h0⟩ | ⟨rfl, he, h0⟩ | ⟨rfl, hl, h0⟩
        · exact .inl (.inl ⟨rfl, acc ++ L0, by rw [List.append_assoc], by simp only [List.mem_append, not_or]; exact ⟨hno, h0⟩⟩)
        · exact .inl (.inr ⟨rfl, he, by simp only [List.mem_append, not_or]; exact ⟨hno, h0⟩⟩)
        · exact .inr ⟨rfl, by simp only [List.mem_append, not_or]; exact ⟨hno, h0⟩⟩
      · exact (hO3.trans (hO4.mono fun k _ hk => .inr (.inl hk))).then_ hO5 (RlS_mono w0 hrel3)
      · rcases hat5 with e | e
        · rw [e]; exact hrel3
        · exact .inr ⟨_, e, Nat.le_trans hO3.size hO4.size⟩
    · have hE : RawEnds k acc p3 := hE3.resolve_right fun hh => hk2 hh.1
      have hM : ∀ e', e' 0 = .pointer (some ⟨a, 0, none⟩) → e' 5 = endErr er k → RfM Bs a g s x str p er w0 e' w3 := fun e' h1 h2 => ⟨k, raw3, r3, acc, p3, h3, hown3, hp3, hE, h1, h2, hO3, hrel3⟩
      rcases hE with ⟨rfl, _⟩ | ⟨rfl, _⟩
      · rw [endErr_0] at hM ⊢
        refine W_seq ?_
        refine W_seq ?_
        refine W_region ?_
        refine V (x_move (by conv => lhs; whnf)) rfl ?_
        refine V (x_load ld55 rfl hG35) rfl ?_
        refine V (x_eql_nil_held Tryd.underlying55 rfl rfl) rfl ?_
        refine WL_nil ?_
        refine W_false (rfl) ?_
        refine W_exit ?_
        repeat (first | with_reducible refine xt ?_ | with_reducible refine xb ?_ | with_reducible refine nt ?_ | with_reducible refine nb ?_ | with_reducible refine xn rfl ?_)
        exact hM _ rfl rfl
      · rw [endErr_1] at hM ⊢
        obtain ⟨t0, cs0, hb0⟩ := hG3.lt 0 (by omega)
        obtain ⟨t5, cs5, hb5⟩ := hG3.lt 5 (by omega)
        have hne : er 0 ≠ er 5 := fun hh => by
          have := hG3.inj 0 5 (by omega) (by omega) (by simpa using hh)
          omega
        refine W_seq ?_
        refine W_seq ?_
        refine W_region ?_
        refine V (x_move (by conv => lhs; whnf)) rfl ?_
        refine V (x_load ld55 rfl hG35) rfl ?_
        refine V (x_eql_other Tryd.underlying55 ptrE rfl rfl hne hb0 hb5) rfl ?_
        refine WL_nil ?_
        refine W_false (rfl) ?_
        refine W_exit ?_
        repeat (first | with_reducible refine xt ?_ | with_reducible refine xb ?_ | with_reducible refine nt ?_ | with_reducible refine nb ?_ | with_reducible refine xn rfl ?_)
        exact hM _ rfl rfl
  · rintro e w3 ⟨k, raw3, r3, acc, p3, h3, hown3, hp3, hE3, e0, e5, hO3, hrel3⟩
    rw [← upd_self e0, ← upd_self (e := upd e 0 _) (d := 5) e5]
    obtain ⟨A3, c3, hv3, hn3, hm3⟩ := hown3.form
    have hC3 := h3.C
    unfold CBlk at hC3
    simp only at hC3
    rw [hv3] at hC3
    refine W_region ?_
    refine V (x_move (by conv => lhs; whnf)) rfl ?_
    refine V (x_nilc rfl) rfl ?_
    refine V (x_field0 fa71_10 rfl) rfl ?_
    refine V (x_load ld62 rfl ((hC3).cell 10 rfl)) rfl ?_
    refine V (x_assign (by conv => lhs; whnf)) rfl ?_
    refine WL_nil ?_
    repeat (first | with_reducible refine xt ?_ | with_reducible refine xb ?_ | with_reducible refine nt ?_ | with_reducible refine nb ?_ | with_reducible refine xn rfl ?_)
    refine ⟨k, raw3, r3, acc, p3, A3, c3, h3, ⟨hn3, fun hn => ?_⟩, hp3, hE3, rfl, rfl, rfl, hO3, hrel3⟩
    obtain ⟨gA, hA, hgA, _⟩ := hown3.cell hv3 (by simpa using hn)
    obtain ⟨cap, cur, _, hb, _, hx, _⟩ := hown3.blk hgA
    refine ⟨gA, 0, cur, hA, hb, fun j b hj => ?_, .inr hgA⟩
    rw [Nat.zero_add]
    have hxj : (cur.take (acc.length * 1))[j]? = some (bv b) := by rw [hx, List.getElem?_map, hj]; rfl
    rw [List.getElem?_take] at hxj
    split at hxj
    · exact hxj
    · cases hxj
end Go.Proofs.YtcdhbfhijkdfoaaDoor
