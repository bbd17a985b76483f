/-
  (*csv.Reader).readLine, its second half: the line's end is made plain; and the whole.
-/
import Derived.Test.YtcdhbfhijkdfoaaDoorRl
namespace Go.Proofs.YtcdhbfhijkdfoaaDoor
open Go.EC Go.RowKit

/-- At the end of the text a carriage return is dropped. -/
def normE (k : Nat) (L : Bytes) : Bytes := if k = 1 ∧ L.getLast? = some 13 then L.dropLast else L
/-- A carriage return ahead of a newline is dropped. -/
def normN (M : Bytes) : Bytes := if M.getLast? = some 10 ∧ M.dropLast.getLast? = some 13 then M.dropLast.dropLast ++ [10] else M
/-- The error that readLine hands back. -/
@[irreducible] def lineErr (er : Nat → Addr) (k : Nat) (L : Bytes) : Value := if k = 1 ∧ L = [] then errV er 0 else .nilIface
theorem lineErr_eof (er : Nat → Addr) : lineErr er 1 [] = errV er 0 := by unfold lineErr; simp
theorem lineErr_0 (er : Nat → Addr) (L : Bytes) : lineErr er 0 L = .nilIface := by unfold lineErr; simp
theorem lineErr_1 (er : Nat → Addr) {L : Bytes} (h : L ≠ []) : lineErr er 1 L = .nilIface := by unfold lineErr; simp [h]

theorem LineAt.take {w : World} {g : Nat} {raw : Value} {r : Nat} {A : Option Addr} {c : Nat} {L : Bytes} (h : LineAt w g raw r A c L) : LineAt w g raw r A c L.dropLast := by
  refine ⟨by have := h.cap; simp; omega, fun hn => ?_⟩
  have hL : L ≠ [] := by rintro rfl; simp at hn
  obtain ⟨gA, o, csA, h1, h2, h3, h4⟩ := h.cells hL
  refine ⟨gA, o, csA, h1, h2, fun j b hj => h3 j b ?_, (match h4 with | .inl ⟨ha, hb⟩ => .inl ⟨ha, by simp; omega⟩ | .inr hc => .inr hc)⟩
  have hjl : j < L.dropLast.length := (List.getElem?_eq_some_iff.1 hj).1
  rw [List.getElem?_dropLast] at hj
  split at hj
  · exact hj
  · cases hj
theorem LineAt.cell {w : World} {g : Nat} {raw : Value} {r : Nat} {A : Option Addr} {c : Nat} {L : Bytes} (h : LineAt w g raw r A c L) (hn : L ≠ []) : ∃ gA o, A = some ⟨gA, o, none⟩ ∧ ∀ j b, L[j]? = some b → w.cell? ⟨gA, o + j, none⟩ = some (bv b) := h.at_ hn

theorem byte_ne {b : UInt8} {n : Nat} (h : b ≠ UInt8.ofNat n) (_ : n < 256 := by decide) : (((b.toNat : Int)) == (n : Int)) = false := by
  rw [beq_eq_false_iff_ne]
  intro hh
  have h1 : b.toNat = n := by omega
  exact h (by rw [← h1]; simp)
theorem byte_eq {b : UInt8} {n : Nat} (h : b = UInt8.ofNat n) (hn : n < 256 := by decide) : (((b.toNat : Int)) == (n : Int)) = true := by
  subst h
  rw [beq_iff_eq, UInt8.toNat_ofNat']
  have : n % 256 = n := Nat.mod_eq_of_lt hn
  omega
/-- Between the two halves. -/
def RmM (Bs a g s : Nat) (x : Fld) (str : ByteArray) (p : Bytes) (er : Nat → Addr) (w0 : World) (e : Env) (w : World) : Prop :=
  ∃ (k : Nat) (raw' : Value) (r' : Nat) (L p' : Bytes) (A : Option Addr) (c : Nat) (n : Int), RdS w Bs a g s { x with raw := raw' } str r' p' ∧ LineAt w g raw' r' A c (normE k L) ∧ p = L ++ p' ∧ RawEnds k L p' ∧
    e 0 = .pointer (some ⟨a, 0, none⟩) ∧ e 4 = .slice A (normE k L).length c ∧ e 5 = lineErr er k L ∧ e 6 = .int .i64 n ∧ Only (RlS a x.b g s x.raw) w0 w ∧ (raw'.ownBlock = x.raw.ownBlock ∨ ∃ k, raw'.ownBlock = some k ∧ w0.heap.size ≤ k)

theorem readLine_end (Bs a g s : Nat) (x : Fld) (str : ByteArray) (p : Bytes) (er : Nat → Addr) (w0 w : World) (e : Env) (hM : RlM Bs a g s x str p er w0 e w) (hG : Glob w er) (hp2 : p.length ≤ 2147487744) (Q : Exit → Env → World → Prop)
    (hQ : ∀ e w, RmM Bs a g s x str p er w0 e w → W Tryd.prog Tryd.f45.ntmps (sndC (sndC (sndC (sndC (sndC (bodyOf Tryd.f45)))))) Q e w) :
    W Tryd.prog Tryd.f45.ntmps (sndC (sndC (sndC (bodyOf Tryd.f45)))) Q e w := by
  obtain ⟨k, raw', r', L, p', A, c, h, hL, hp, hR, e0, e4, e5, hO, hrel⟩ := hM
  have hcap := hL.cap
  have hpl : L.length ≤ 2147487744 := by rw [hp, List.length_append] at hp2; omega
  rw [← upd_self e0, ← upd_self (e := upd e 0 _) (d := 4) e4, ← upd_self (e := upd (upd e 0 _) 4 _) (d := 5) e5]
  have hG0 : w.cell? ⟨0, 0, none⟩ = some (errV er 0) := hG.cell 0 (by omega)
  conv => arg 3; whnf
  have fin : ∀ e' w', w' = w → e' 0 = .pointer (some ⟨a, 0, none⟩) → e' 4 = .slice A (normE k L).length c → e' 5 = lineErr er k L → e' 6 = .int .i64 (L.length : Int) → W Tryd.prog Tryd.f45.ntmps (sndC (sndC (sndC (sndC (sndC (bodyOf Tryd.f45)))))) Q e' w' := fun e' w' hw h0 h4 h5 h6 => by
    subst hw
    refine hQ e' _ ⟨k, raw', r', L, p', A, c, L.length, h, ?_, hp, hR, h0, h4, h5, h6, hO, hrel⟩
    unfold normE
    split
    · exact hL.take
    · exact hL
  rcases hR with ⟨rfl, L0, rfl, hno⟩ | ⟨rfl, rfl, hno⟩
  · rw [endErr_0]
    have hne : normE 0 (L0 ++ [10]) = L0 ++ [10] := by unfold normE; simp
    rw [hne, lineErr_0] at fin
    refine W_seq ?_
    refine W_region ?_
    refine V (x_move (by conv => lhs; whnf)) rfl ?_
    refine V (x_len_slice Tryd.underlying62 rfl) rfl ?_
    refine V (x_assign (by conv => lhs; whnf)) rfl ?_
    refine WL_nil ?_
    refine W_seq ?_
    refine W_seq ?_
    refine W_region ?_
    refine V (x_move (by conv => lhs; whnf)) rfl ?_
    refine V (x_bin rfl rfl (bt (decide_eq_true (by simp)))) rfl ?_
    refine V (x_move (by conv => lhs; whnf)) rfl ?_
    refine VG rfl (x_move (by conv => lhs; whnf)) rfl ?_
    refine VG rfl (x_load ld55 rfl hG0) rfl ?_
    refine VG rfl (x_eql_nil_held Tryd.underlying55 rfl rfl) rfl ?_
    refine V (x_pick_t rfl (by conv => lhs; whnf)) rfl ?_
    refine WL_nil ?_
    refine W_false (rfl) ?_
    refine W_skip ?_
    exact fin _ _ rfl rfl rfl rfl rfl
  · rw [endErr_1]
    by_cases hn : L = []
    · subst hn
      rw [show normE 1 [] = [] from rfl, lineErr_eof] at fin
      refine W_seq ?_
      refine W_region ?_
      refine V (x_move (by conv => lhs; whnf)) rfl ?_
      refine V (x_len_slice Tryd.underlying62 rfl) rfl ?_
      refine V (x_assign (by conv => lhs; whnf)) rfl ?_
      refine WL_nil ?_
      refine W_seq ?_
      refine W_seq ?_
      refine W_region ?_
      refine V (x_move (by conv => lhs; whnf)) rfl ?_
      refine V (x_bin rfl rfl (bf rfl)) rfl ?_
      refine V (x_move (by conv => lhs; whnf)) rfl ?_
      refine SG rfl (by decide) rfl ?_
      refine SG rfl (by decide) rfl ?_
      refine SG rfl (by decide) rfl ?_
      refine V (x_pick_f rfl (by conv => lhs; whnf)) rfl ?_
      refine WL_nil ?_
      refine W_false (rfl) ?_
      refine W_skip ?_
      exact fin _ _ rfl rfl rfl rfl rfl
    · have hlp : 0 < L.length := List.length_pos_iff.2 hn
      obtain ⟨gA, o, rfl, hc⟩ := hL.cell hn
      have hlast : L[L.length - 1]? = L.getLast? := by rw [List.getLast?_eq_getElem?]
      have hg : L[L.length - 1]? = some (L[L.length - 1]'(by omega)) := List.getElem?_eq_getElem (by omega)
      rw [lineErr_1 er hn] at fin
      by_cases h13 : L.getLast? = some 13
      · have hb : (L[L.length - 1]'(by omega)) = 13 := by rw [hlast, h13] at hg; injection hg with hg; exact hg.symm
        have hne : normE 1 L = L.dropLast := by unfold normE; simp [h13]
        have hdl : L.dropLast.length = L.length - 1 := by simp
        rw [hne, hdl] at fin
        refine W_seq ?_
        refine W_region ?_
        refine V (x_move (by conv => lhs; whnf)) rfl ?_
        refine V (x_len_slice Tryd.underlying62 rfl) rfl ?_
        refine V (x_assign (by conv => lhs; whnf)) rfl ?_
        refine WL_nil ?_
        refine W_seq ?_
        refine W_seq ?_
        refine W_region ?_
        refine V (x_move (by conv => lhs; whnf)) rfl ?_
        refine V (x_bin rfl rfl (bt (decide_eq_true (by omega)))) rfl ?_
        refine V (x_move (by conv => lhs; whnf)) rfl ?_
        refine VG rfl (x_move (by conv => lhs; whnf)) rfl ?_
        refine VG rfl (x_load ld55 rfl hG0) rfl ?_
        refine VG rfl (x_eql_same Tryd.underlying55 ptrE rfl rfl) rfl ?_
        refine V (x_pick_t rfl (by conv => lhs; whnf)) rfl ?_
        refine WL_nil ?_
        refine W_true (rfl) ?_
        refine W_seq ?_
        refine W_region ?_
        refine V (x_assign (by conv => lhs; whnf)) rfl ?_
        refine WL_nil ?_
        refine W_seq ?_
        refine W_region ?_
        refine V (x_move (by conv => lhs; whnf)) rfl ?_
        refine V (x_move (by conv => lhs; whnf)) rfl ?_
        refine V (x_bin rfl rfl (ib_subn (m := L.length - 1) (by omega) (by omega))) rfl ?_
        refine V (x_index Tryd.underlying62 sz5 rfl rfl rfl (by omega)) rfl ?_
        refine V (x_load ld5 rfl (hc _ _ hg)) rfl ?_
        refine V (x_bin rfl rfl (bt (by rw [hb]; rfl))) rfl ?_
        refine WL_nil ?_
        refine W_true (rfl) ?_
        refine W_region ?_
        refine V (x_move (by conv => lhs; whnf)) rfl ?_
        refine V (x_move (by conv => lhs; whnf)) rfl ?_
        refine V (x_bin rfl rfl (ib_subn (m := L.length - 1) (by omega) (by omega))) rfl ?_
        refine V (x_slice_h Tryd.underlying62 ⟨1, sz5⟩ rfl rfl rfl (by omega)) rfl ?_
        refine V (x_assign (by conv => lhs; whnf)) rfl ?_
        refine WL_nil ?_
        exact fin _ _ rfl rfl rfl rfl rfl
      · have hb : (L[L.length - 1]'(by omega)) ≠ 13 := fun hh => h13 (by rw [← hlast, hg, hh])
        have hne : normE 1 L = L := by unfold normE; simp [h13]
        rw [hne] at fin
        refine W_seq ?_
        refine W_region ?_
        refine V (x_move (by conv => lhs; whnf)) rfl ?_
        refine V (x_len_slice Tryd.underlying62 rfl) rfl ?_
        refine V (x_assign (by conv => lhs; whnf)) rfl ?_
        refine WL_nil ?_
        refine W_seq ?_
        refine W_seq ?_
        refine W_region ?_
        refine V (x_move (by conv => lhs; whnf)) rfl ?_
        refine V (x_bin rfl rfl (bt (decide_eq_true (by omega)))) rfl ?_
        refine V (x_move (by conv => lhs; whnf)) rfl ?_
        refine VG rfl (x_move (by conv => lhs; whnf)) rfl ?_
        refine VG rfl (x_load ld55 rfl hG0) rfl ?_
        refine VG rfl (x_eql_same Tryd.underlying55 ptrE rfl rfl) rfl ?_
        refine V (x_pick_t rfl (by conv => lhs; whnf)) rfl ?_
        refine WL_nil ?_
        refine W_true (rfl) ?_
        refine W_seq ?_
        refine W_region ?_
        refine V (x_assign (by conv => lhs; whnf)) rfl ?_
        refine WL_nil ?_
        refine W_seq ?_
        refine W_region ?_
        refine V (x_move (by conv => lhs; whnf)) rfl ?_
        refine V (x_move (by conv => lhs; whnf)) rfl ?_
        refine V (x_bin rfl rfl (ib_subn (m := L.length - 1) (by omega) (by omega))) rfl ?_
        refine V (x_index Tryd.underlying62 sz5 rfl rfl rfl (by omega)) rfl ?_
        refine V (x_load ld5 rfl (hc _ _ hg)) rfl ?_
        refine V (x_bin rfl rfl (bf (byte_ne hb))) rfl ?_
        refine WL_nil ?_
        refine W_false (rfl) ?_
        refine W_skip ?_
        exact fin _ _ rfl rfl rfl rfl rfl

/-- What readLine leaves. -/
def RlPost (Bs a g s : Nat) (x : Fld) (str : ByteArray) (p : Bytes) (er : Nat → Addr) (w0 : World) : Value → World → Prop := fun v w =>
  ∃ (k : Nat) (raw' : Value) (nl' off' : Int) (r' : Nat) (L p' : Bytes) (A : Option Addr) (c : Nat), v = .tuple #[.slice A (normN (normE k L)).length c, lineErr er k L] ∧ RdS w Bs a g s { x with raw := raw', nl := nl', off := off' } str r' p' ∧
    LineAt w g raw' r' A c (normN (normE k L)) ∧ p = L ++ p' ∧ RawEnds k L p' ∧ Only (RlS a x.b g s x.raw) w0 w ∧ (raw'.ownBlock = x.raw.ownBlock ∨ ∃ k, raw'.ownBlock = some k ∧ w0.heap.size ≤ k)

section
variable {w w' : World} {Bs a g s : Nat} {x : Fld} {str : ByteArray} {r : Nat} {p : Bytes} {S : Nat → Prop}
theorem RdS.ab (h : RdS w Bs a g s x str r p) : x.b ≠ a ∧ g ≠ a ∧ s ≠ a ∧ x.raw.ownBlock ≠ some a := by
  obtain ⟨⟨_, hB⟩, ⟨_, hGg⟩, ⟨_, hS⟩, _, _⟩ := h.src.lts
  obtain ⟨n, xs, hown⟩ := h.raw
  exact ⟨fun e => by rw [e] at hB; exact hB.ne h.C (by decide) rfl, fun e => by rw [e] at hGg; exact hGg.ne h.C (by decide) rfl, fun e => by rw [e] at hS; exact hS.ne h.C (by decide) rfl, hown.ne h.C (by decide)⟩
/-- A store into a field that is none of the slices'. -/
theorem RdS.fld (h : RdS w Bs a g s x str r p) {x' : Fld} (i : Nat) (v : Value) (hC : CBlk (w.setCell ⟨a, i, none⟩ v) a x') (hb : x'.b = x.b) (hr : x'.raw = x.raw) : RdS (w.setCell ⟨a, i, none⟩ v) Bs a g s x' str r p := by
  obtain ⟨e1, e2, e3, e4⟩ := h.ab
  obtain ⟨n, xs, hown⟩ := h.raw
  have hst : Only (· = a) w (w.setCell ⟨a, i, none⟩ v) := Only.setCell (· = a) _ rfl _
  exact ⟨hC, by rw [hb]; exact h.src.only hst e1 e2 e3, ⟨n, xs, by rw [hr]; exact hown.only hst fun k hk hka => e4 (by rw [hk, hka])⟩, by rw [hr]; exact h.rawg, by rw [hb, hr]; exact h.lo⟩
theorem LineAt.only {raw : Value} {A : Option Addr} {c : Nat} {L : Bytes} (hL : LineAt w g raw r A c L) (ho : Only S w w') (hg : ¬ S g) (hr : ∀ k, raw.ownBlock = some k → ¬ S k) : LineAt w' g raw r A c L := by
  refine ⟨hL.cap, fun hn => ?_⟩
  obtain ⟨gA, o, csA, h1, h2, h3, h4⟩ := hL.cells hn
  refine ⟨gA, o, csA, h1, h2.only ho ?_, h3, h4⟩
  rcases h4 with ⟨rfl, _⟩ | h4
  · exact hg
  · exact hr gA h4
/-- A store into the line itself. -/
theorem RdS.inLine (h : RdS w Bs a g s x str r p) {A : Option Addr} {c : Nat} {L : Bytes} (hL : LineAt w g x.raw r A c L) (j : Nat) (hj : j < L.length) (b : UInt8) :
    ∃ gA o, A = some ⟨gA, o, none⟩ ∧ (∃ u, w.cell? ⟨gA, o + j, none⟩ = some u) ∧ w.frozen? ⟨gA, o + j, none⟩ = false ∧ RdS (w.setCell ⟨gA, o + j, none⟩ (bv b)) Bs a g s x str r p ∧ LineAt (w.setCell ⟨gA, o + j, none⟩ (bv b)) g x.raw r A c (L.set j b) ∧ Only (RlS a x.b g s x.raw) w (w.setCell ⟨gA, o + j, none⟩ (bv b)) := by
  obtain ⟨gA, o, csA, h1, h2, h3, h4⟩ := hL.cells (by rintro rfl; simp at hj)
  obtain ⟨e1, e2, e3, e4⟩ := h.ab
  obtain ⟨n, xs, hown⟩ := h.raw
  obtain ⟨u, rest, cs, q, lb, lr, i, prev, hbs, hp⟩ := h.src
  have hcj : csA[o + j]? = some (bv L[j]) := h3 j _ (List.getElem?_eq_getElem hj)
  have hlt : o + j < csA.length := (List.getElem?_eq_some_iff.1 hcj).1
  have hst : Only (· = gA) w (w.setCell ⟨gA, o + j, none⟩ (bv b)) := Only.setCell (· = gA) _ rfl _
  have hSet := h2.set (o + j) (bv b)
  have hLine : LineAt (w.setCell ⟨gA, o + j, none⟩ (bv b)) g x.raw r A c (L.set j b) := by
    refine ⟨by simpa using hL.cap, fun _ => ⟨gA, o, _, h1, hSet, fun m y hm => ?_, by simpa using h4⟩⟩
    rw [List.getElem?_set] at hm ⊢
    by_cases hjm : j = m
    · subst hjm
      simp only [if_true, if_pos hj] at hm
      injection hm with hm
      subst hm
      simp [hlt]
    · rw [if_neg hjm] at hm
      rw [if_neg (by omega)]
      exact h3 m y hm
  have na : gA ≠ a := fun e => by rw [e] at h2; exact h2.ne h.C (by decide) rfl
  have nb : gA ≠ x.b := fun e => by rw [e] at h2; exact h2.ne hbs.B (by decide) rfl
  have ns : gA ≠ s := fun e => by rw [e] at h2; exact h2.ne hbs.S (by decide) rfl
  refine ⟨gA, o, h1, ⟨_, h2.cell _ hcj⟩, h2.free _, ⟨h.C.only hst (fun e => na e.symm), ?_, ?_, h.rawg, h.lo⟩, hLine, ?_⟩
  · rcases h4 with ⟨rfl, hor⟩ | h4
    · have hcs : csA = cs := by
        have e1 := h2; have e2 := hbs.G
        unfold Blk at e1 e2
        rw [e1] at e2; injection e2 with e2; injection e2 with e2
        have := congrArg Array.toList e2
        simpa using this
      subst hcs
      refine ⟨u, rest, _, q, lb, lr, i, prev, ⟨hbs.B.only hst (fun e => nb e.symm), hSet, hbs.S.only hst (fun e => ns e.symm), ?_, hbs.rest, hbs.le, hbs.small⟩, hp⟩
      refine ⟨by rw [List.length_set]; exact hbs.buf.len, hbs.buf.eq, hbs.buf.le, fun m y hm => ?_, fun v hv => ?_⟩
      · rw [List.getElem?_set, if_neg (by omega)]
        exact hbs.buf.cells m y hm
      · rcases List.mem_or_eq_of_mem_set hv with hv | rfl
        · exact hbs.buf.one v hv
        · rfl
    · have ng : gA ≠ g := fun e => h.rawg (by rw [← e]; exact h4)
      exact h.src.only hst (fun e => nb e.symm) (fun e => ng e.symm) (fun e => ns e.symm)
  · rcases h4 with ⟨rfl, _⟩ | h4
    · exact ⟨n, xs, hown.only hst fun k hk hka => h.rawg (by rw [hk, hka])⟩
    · obtain ⟨cap, cur, hv, hb, hl, hx, hn, hm⟩ := hown.blk h4
      have hb' := hb.set (o + j) (bv b)
      refine ⟨n, (cur.set (o + j) (bv b)).take (n * 1), ?_, .inr ⟨gA, cap, (cur.set (o + j) (bv b)).toArray, hv, Nat.zero_le _, hb', hn, hm, by simpa using hl, by simp⟩⟩
      simp; omega
  · refine hst.mono fun k _ hk => ?_
    subst hk
    rcases h4 with ⟨rfl, _⟩ | h4
    · exact .inr (.inl (.inr (.inl rfl)))
    · exact .inr (.inr h4)
end
end Go.Proofs.YtcdhbfhijkdfoaaDoor
