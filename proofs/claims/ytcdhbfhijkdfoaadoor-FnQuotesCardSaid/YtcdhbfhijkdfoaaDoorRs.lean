/-
  (*bufio.Reader).ReadSlice at a newline: the next line, or as much of it as the buffer bears.
-/
import Derived.Test.YtcdhbfhijkdfoaaDoorBu
namespace Go.Proofs.YtcdhbfhijkdfoaaDoor
open Go.EC Go.RowKit

/-- How a call of ReadSlice ends: 0 with a newline, 1 at the end of the text, 2 with a full buffer. -/
def Ends (k : Nat) (L p' : Bytes) : Prop :=
  (k = 0 ∧ ∃ L0, L = L0 ++ [10] ∧ (10 : UInt8) ∉ L0) ∨ (k = 1 ∧ p' = [] ∧ (10 : UInt8) ∉ L) ∨ (k = 2 ∧ L.length = 4096 ∧ (10 : UInt8) ∉ L)
/-- Its error. -/
@[irreducible] def endErr (er : Nat → Addr) (k : Nat) : Value := if k = 0 then .nilIface else if k = 1 then errV er 0 else errV er 5
theorem endErr_0 (er : Nat → Addr) : endErr er 0 = .nilIface := by unfold endErr; rfl
theorem endErr_1 (er : Nat → Addr) : endErr er 1 = errV er 0 := by unfold endErr; rfl
theorem endErr_2 (er : Nat → Addr) : endErr er 2 = errV er 5 := by unfold endErr; rfl
/-- The line lies in the buffer, ahead of what is unread. -/
structure Lies (g : Nat) (cs : List Value) (r : Nat) (A : Option Addr) (c : Nat) (L : Bytes) : Prop where
  cap : L.length ≤ c
  cells : L ≠ [] → ∃ o, A = some ⟨g, o, none⟩ ∧ o + L.length ≤ r ∧ ∀ j b, L[j]? = some b → cs[o + j]? = some (bv b)

theorem idx_none {l : Bytes} {b : UInt8} (h : Lib.indexByte l b < 0) : b ∉ l := by
  induction l with
  | nil => simp
  | cons x l ih =>
    unfold Lib.indexByte at h
    split at h
    · omega
    · rename_i hx
      have hge := Lib.indexByte_ge l b
      split at h
      · rename_i h1
        have h1' : Lib.indexByte l b = -1 := by simpa using h1
        have hx' : x ≠ b := by simpa using hx
        simp only [List.mem_cons, not_or]
        exact ⟨fun hh => hx' hh.symm, ih (by omega)⟩
      · rename_i h1
        have h1' : ¬ Lib.indexByte l b = -1 := by simpa using h1
        omega
theorem idx_some {l : Bytes} {b : UInt8} (h : 0 ≤ Lib.indexByte l b) : ∃ l0 l1, l = l0 ++ b :: l1 ∧ b ∉ l0 ∧ Lib.indexByte l b = (l0.length : Int) := by
  induction l with
  | nil => simp [Lib.indexByte] at h
  | cons x l ih =>
    unfold Lib.indexByte at h ⊢
    by_cases hx : (x == b) = true
    · rw [if_pos hx]
      have : x = b := by simpa using hx
      subst this
      exact ⟨[], l, rfl, by simp, rfl⟩
    · rw [if_neg hx] at h ⊢
      by_cases h1 : (Lib.indexByte l b == -1) = true
      · rw [if_pos h1] at h; omega
      · rw [if_neg h1] at h ⊢
        have h1' : ¬ Lib.indexByte l b = -1 := by simpa using h1
        have hge := Lib.indexByte_ge l b
        obtain ⟨l0, l1, hl, hn, hi⟩ := ih (by omega)
        refine ⟨x :: l0, l1, by rw [hl]; rfl, ?_, by rw [hi]; simp⟩
        simp only [List.mem_cons, not_or]
        exact ⟨fun hh => hx (by simp [hh]), hn⟩

/-- What the loop of ReadSlice keeps. -/
def RsI (b g s : Nat) (p : Bytes) (lb lr : Int) (str : ByteArray) (er : Nat → Addr) (w0 : World) (k : Nat) (e : Env) (w : World) : Prop :=
  ∃ (u rest : Bytes) (err : Value) (cs : List Value) (r q : Nat) (i : Nat) (prev : Int) (m : Nat), BS w b g s err u rest cs r q lb lr str i prev ∧ ((err = .nilIface ∧ k = 2 * rest.length + 1) ∨ (err = errV er 0 ∧ rest = [] ∧ k = 0 ∧ m = u.length)) ∧
    e 0 = .pointer (some ⟨b, 0, none⟩) ∧ e 1 = .int .u8 10 ∧ e 4 = .slice none 0 0 ∧ e 5 = .nilIface ∧ e 6 = .int .i64 (m : Int) ∧ m ≤ u.length ∧ (10 : UInt8) ∉ u.take m ∧ u ++ rest = p ∧ Only (Three b g s) w0 w
/-- What it leaves. -/
def RsM (b g s : Nat) (p : Bytes) (lb lr : Int) (str : ByteArray) (er : Nat → Addr) (w0 : World) (e : Env) (w : World) : Prop :=
  ∃ (k : Nat) (L u rest : Bytes) (cs : List Value) (r q i : Nat) (prev : Int) (A : Option Addr) (c : Nat), BS w b g s .nilIface u rest cs r q lb lr str i prev ∧ p = L ++ (u ++ rest) ∧ Ends k L (u ++ rest) ∧ Lies g cs r A c L ∧
    e 0 = .pointer (some ⟨b, 0, none⟩) ∧ e 4 = .slice A L.length c ∧ e 5 = endErr er k ∧ Only (Three b g s) w0 w

section
variable {w w' : World} {b g s : Nat} {err : Value} {u rest : Bytes} {cs : List Value} {r q : Nat} {lb lr : Int} {str : ByteArray} {i : Nat} {prev : Int}
theorem Buf.at_ (h : Buf cs r q u) (hG : Blk w g 5 cs) (m : Nat) (_ : m ≤ u.length) : At w (if 4096 = r + m then some (⟨g, 0, none⟩ : Addr) else Option.map (fun x => x.add (r + m)) (some (⟨g, 0, none⟩ : Addr))) (u.drop m) := by
  intro hne
  have hlt : m < u.length := by
    rcases Nat.lt_or_ge m u.length with h1 | h1
    · exact h1
    · exact absurd (List.drop_eq_nil_of_le h1) hne
  have he := h.eq
  have hl := h.le
  refine ⟨g, r + m, by rw [if_neg (by omega)]; simp [add_none], fun j x hx => hG.cell (r + m + j) ?_⟩
  rw [List.getElem?_drop] at hx
  rw [Nat.add_assoc]
  exact h.cells (m + j) x hx
/-- The first k of the unread bytes are taken. -/
theorem Buf.eat (h : Buf cs r q u) (k : Nat) (hk : k ≤ u.length) : Buf cs (r + k) q (u.drop k) := by
  have he := h.eq
  refine ⟨h.len, by simp; omega, h.le, fun j x hx => ?_, h.one⟩
  rw [List.getElem?_drop] at hx
  rw [Nat.add_assoc]
  exact h.cells (k + j) x hx
theorem Buf.lies (h : Buf cs r q u) (k : Nat) (hk : k ≤ u.length) : Lies g cs (r + k) (if 4096 = r then some (⟨g, 0, none⟩ : Addr) else Option.map (fun x => x.add r) (some (⟨g, 0, none⟩ : Addr))) (4096 - r) (u.take k) := by
  have he := h.eq
  have hl := h.le
  refine ⟨by simp; omega, fun hne => ?_⟩
  have hp : 0 < k ∧ 0 < u.length := by
    constructor
    · rcases Nat.eq_zero_or_pos k with h0 | h0
      · subst h0; simp at hne
      · exact h0
    · rcases Nat.eq_zero_or_pos u.length with h0 | h0
      · have := List.eq_nil_of_length_eq_zero h0; subst this; simp at hne
      · exact h0
  refine ⟨r, by rw [if_neg (by omega)]; simp [add_none], by simp; omega, fun j x hx => ?_⟩
  rw [List.getElem?_take] at hx
  split at hx
  · exact h.cells j x hx
  · cases hx
end

theorem RsI_found (b g s : Nat) (p : Bytes) (lb lr : Int) (str : ByteArray) (er : Nat → Addr) (w0 w : World) (N : Env → World → Prop) (u rest : Bytes) (err : Value) (cs : List Value) (r q i : Nat) (prev : Int) (m : Nat) (f : Env) (l0 l1 : Bytes)
    (h : BS w b g s err u rest cs r q lb lr str i prev) (hnil : err = .nilIface) (hm : m ≤ u.length) (hno : (10 : UInt8) ∉ u.take m) (hp : u ++ rest = p) (hO : Only (Three b g s) w0 w) (hl : u.drop m = l0 ++ 10 :: l1) (hn0 : (10 : UInt8) ∉ l0) (hix : Lib.indexByte (u.drop m) 10 = (l0.length : Int)) :
    W Tryd.prog Tryd.f58.ntmps (inC (inC (fstC (sndC (sndC (bodyOf Tryd.f58)))))) (thn N (inB 0 (thn (RsM b g s p lb lr str er w0) fun _ _ _ => False)))
      (upd (upd (upd (upd (upd f 0 (.pointer (some ⟨b, 0, none⟩))) 1 (.int .u8 10)) 4 (.slice none 0 0)) 5 .nilIface) 6 (.int .i64 (m : Int))) w := by
  have he := h.buf.eq
  have hle := h.buf.le
  have hlen : (u.drop m).length = l0.length + 1 + l1.length := by rw [hl]; simp; omega
  rw [List.length_drop] at hlen
  subst hnil
  conv => arg 3; whnf
  refine W_block ?_
  refine W_seq ?_
  refine W_seq ?_
  refine W_q mixed (by kernel_rfl) ?_
  refine K (x_move (by conv => lhs; whnf)) rfl ?_
  refine K (x_nilc rfl) rfl ?_
  refine K (x_field0 fa121_0 rfl) rfl ?_
  refine K (x_load ld62 rfl ((h.B.drew).cell 0 rfl)) rfl ?_
  refine K (x_move (by conv => lhs; whnf)) rfl ?_
  refine K (x_nilc rfl) rfl ?_
  refine K (x_field0 fa121_2 rfl) rfl ?_
  refine K (x_load ld3 rfl ((h.B.drew).cell 2 rfl)) rfl ?_
  refine K (x_move (by conv => lhs; whnf)) rfl ?_
  refine K (x_bin rfl rfl (ib_addn (m := r + m) (by omega) (by omega))) rfl ?_
  refine K (x_move (by conv => lhs; whnf)) rfl ?_
  refine K (x_nilc rfl) rfl ?_
  refine K (x_field0 fa121_3 rfl) rfl ?_
  refine K (x_load ld3 rfl ((h.B.drew).cell 3 rfl)) rfl ?_
  refine K (x_slice_lh Tryd.underlying62 sz5 rfl rfl rfl rfl rfl (by omega) (by omega)) rfl ?_
  refine K (x_move (by conv => lhs; whnf)) rfl ?_
  refine KC (fun _ => x_call2 cf53 (by conv => lhs; whnf) (by conv => lhs; whnf)) (IndexByte_n _ _ _ (u.drop m) 10 10 _ _ (h.buf.at_ h.G.drew m hm) (by simp; omega) rfl hix) rfl ?_
  refine K (x_assign (by conv => lhs; whnf)) rfl ?_
  refine KN ?_
  refine W_seq ?_
  refine W_region ?_
  refine V (x_move (by conv => lhs; whnf)) rfl ?_
  refine V (x_bin rfl rfl (bt (decide_eq_true (by omega)))) rfl ?_
  refine WL_nil ?_
  refine W_true (rfl) ?_
  refine W_seq ?_
  refine W_region ?_
  refine V (x_move (by conv => lhs; whnf)) rfl ?_
  refine V (x_move (by conv => lhs; whnf)) rfl ?_
  refine V (x_bin rfl rfl (ib_addn (m := l0.length + m) (by omega) (by omega))) rfl ?_
  refine V (x_assign (by conv => lhs; whnf)) rfl ?_
  refine WL_nil ?_
  refine W_seq ?_
  refine W_q mixed (by kernel_rfl) ?_
  refine K (x_move (by conv => lhs; whnf)) rfl ?_
  refine K (x_nilc rfl) rfl ?_
  refine K (x_field0 fa121_0 rfl) rfl ?_
  refine K (x_load ld62 rfl ((h.B.drew.drew).cell 0 rfl)) rfl ?_
  refine K (x_move (by conv => lhs; whnf)) rfl ?_
  refine K (x_nilc rfl) rfl ?_
  refine K (x_field0 fa121_2 rfl) rfl ?_
  refine K (x_load ld3 rfl ((h.B.drew.drew).cell 2 rfl)) rfl ?_
  refine K (x_move (by conv => lhs; whnf)) rfl ?_
  refine K (x_nilc rfl) rfl ?_
  refine K (x_field0 fa121_2 rfl) rfl ?_
  refine K (x_load ld3 rfl ((h.B.drew.drew).cell 2 rfl)) rfl ?_
  refine K (x_move (by conv => lhs; whnf)) rfl ?_
  refine K (x_bin rfl rfl (ib_addn (m := r + (l0.length + m)) (by omega) (by omega))) rfl ?_
  refine K (x_bin rfl rfl (ib_addn (m := r + (l0.length + m) + 1) (by omega) (by omega))) rfl ?_
  refine K (x_slice_lh Tryd.underlying62 sz5 rfl rfl rfl rfl rfl (by omega) (by omega)) rfl ?_
  refine K (x_assign (by conv => lhs; whnf)) rfl ?_
  refine KN ?_
  refine W_seq ?_
  refine W_region ?_
  refine V (x_move (by conv => lhs; whnf)) rfl ?_
  refine V (x_nilc rfl) rfl ?_
  refine V (x_field0 fa121_2 rfl) rfl ?_
  refine V (x_load ld3 rfl ((h.B.drew.drew).cell 2 rfl)) rfl ?_
  refine V (x_move (by conv => lhs; whnf)) rfl ?_
  refine V (x_bin rfl rfl (ib_addn (m := l0.length + m + 1) (by omega) (by omega))) rfl ?_
  refine V (x_bin rfl rfl (ib_addn (m := r + (l0.length + m + 1)) (by omega) (by omega))) rfl ?_
  refine V (x_nilc rfl) rfl ?_
  refine V (x_field0 fa121_2 rfl) rfl ?_
  refine S (x_store st3 rfl (by conv => lhs; whnf) rfl ((h.B.drew.drew).cell 2 rfl) ((h.B.drew.drew).free 2)) ?_
  refine WL_nil ?_
  refine W_exit ?_
  repeat (first | with_reducible refine xt ?_ | with_reducible refine xb ?_ | with_reducible refine nt ?_ | with_reducible refine nb ?_ | with_reducible refine xn rfl ?_)
  have hk : l0.length + m + 1 ≤ u.length := by omega
  have htk : u.take (l0.length + m + 1) = (u.take m ++ l0) ++ [10] := by
    have h1 : u = u.take m ++ (l0 ++ 10 :: l1) := by rw [← hl, List.take_append_drop]
    have h2 : (u.take m ++ l0).length = l0.length + m := by simp; omega
    conv => lhs; rw [h1]
    rw [show u.take m ++ (l0 ++ 10 :: l1) = ((u.take m ++ l0) ++ [10]) ++ l1 by simp, List.take_left' (by simp; omega)]
  have hlk : (u.take (l0.length + m + 1)).length = r + (l0.length + m) + 1 - r := by rw [List.length_take]; omega
  refine ⟨0, u.take (l0.length + m + 1), u.drop (l0.length + m + 1), rest, cs, r + (l0.length + m + 1), q, i, prev, _, _, ⟨h.B.drew.drew.set 2 _, h.G.drew.drew.far (Ne.symm h.bg) _, h.S.drew.drew.far (Ne.symm h.bs) _, h.buf.eat _ hk, h.rest, h.le, h.small⟩, ?_, .inl ⟨rfl, _, htk, ?_⟩, h.buf.lies _ hk, rfl, ?_, (endErr_0 er).symm, ?_⟩
  · rw [← List.append_assoc, List.take_append_drop, hp]
  · simp only [List.mem_append, not_or]; exact ⟨hno, hn0⟩
  · rw [hlk]; rfl
  · exact ((hO.trans (Only.drew _ _)).trans (Only.drew _ _)).trans (Only.setCell _ _ (.inl rfl) _)
theorem not_mem_all {u : Bytes} {m : Nat} {b : UInt8} (h1 : b ∉ u.take m) (h2 : b ∉ u.drop m) : b ∉ u := by
  rw [← List.take_append_drop m u, List.mem_append]; exact fun h => h.elim h1 h2
theorem RsI_eof (b g s : Nat) (p : Bytes) (lb lr : Int) (str : ByteArray) (er : Nat → Addr) (w0 w : World) (N : Env → World → Prop) (u _ : Bytes) (cs : List Value) (r q i : Nat) (prev : Int) (m : Nat) (f : Env)
    (h : BS w b g s (errV er 0) u [] cs r q lb lr str i prev) (hm : m ≤ u.length) (hno : (10 : UInt8) ∉ u.take m) (hp : u = p) (hO : Only (Three b g s) w0 w) (hix : Lib.indexByte (u.drop m) 10 < 0) :
    W Tryd.prog Tryd.f58.ntmps (inC (inC (fstC (sndC (sndC (bodyOf Tryd.f58)))))) (thn N (inB 0 (thn (RsM b g s p lb lr str er w0) fun _ _ _ => False)))
      (upd (upd (upd (upd (upd f 0 (.pointer (some ⟨b, 0, none⟩))) 1 (.int .u8 10)) 4 (.slice none 0 0)) 5 .nilIface) 6 (.int .i64 (m : Int))) w := by
  have he := h.buf.eq
  have hle := h.buf.le
  conv => arg 3; whnf
  refine W_block ?_
  refine W_seq ?_
  refine W_seq ?_
  refine W_q mixed (by kernel_rfl) ?_
  refine K (x_move (by conv => lhs; whnf)) rfl ?_
  refine K (x_nilc rfl) rfl ?_
  refine K (x_field0 fa121_0 rfl) rfl ?_
  refine K (x_load ld62 rfl ((h.B.drew).cell 0 rfl)) rfl ?_
  refine K (x_move (by conv => lhs; whnf)) rfl ?_
  refine K (x_nilc rfl) rfl ?_
  refine K (x_field0 fa121_2 rfl) rfl ?_
  refine K (x_load ld3 rfl ((h.B.drew).cell 2 rfl)) rfl ?_
  refine K (x_move (by conv => lhs; whnf)) rfl ?_
  refine K (x_bin rfl rfl (ib_addn (m := r + m) (by omega) (by omega))) rfl ?_
  refine K (x_move (by conv => lhs; whnf)) rfl ?_
  refine K (x_nilc rfl) rfl ?_
  refine K (x_field0 fa121_3 rfl) rfl ?_
  refine K (x_load ld3 rfl ((h.B.drew).cell 3 rfl)) rfl ?_
  refine K (x_slice_lh Tryd.underlying62 sz5 rfl rfl rfl rfl rfl (by omega) (by omega)) rfl ?_
  refine K (x_move (by conv => lhs; whnf)) rfl ?_
  refine KC (fun _ => x_call2 cf53 (by conv => lhs; whnf) (by conv => lhs; whnf)) (IndexByte_n _ _ _ (u.drop m) 10 10 _ _ (h.buf.at_ h.G.drew m hm) (by simp; omega) rfl rfl) rfl ?_
  refine K (x_assign (by conv => lhs; whnf)) rfl ?_
  refine KN ?_
  refine W_seq ?_
  refine W_region ?_
  refine V (x_move (by conv => lhs; whnf)) rfl ?_
  refine V (x_bin rfl rfl (bf (decide_eq_false (by omega)))) rfl ?_
  refine WL_nil ?_
  refine W_false (rfl) ?_
  refine W_skip ?_
  refine W_seq ?_
  refine W_seq ?_
  refine W_region ?_
  refine V (x_move (by conv => lhs; whnf)) rfl ?_
  refine V (x_nilc rfl) rfl ?_
  refine V (x_field0 fa121_4 rfl) rfl ?_
  refine V (x_load ld55 rfl ((h.B.drew).cell 4 rfl)) rfl ?_
  refine V (x_neq_held Tryd.underlying55 rfl) rfl ?_
  refine WL_nil ?_
  refine W_true (rfl) ?_
  refine W_seq ?_
  refine W_q mixed (by kernel_rfl) ?_
  refine K (x_move (by conv => lhs; whnf)) rfl ?_
  refine K (x_nilc rfl) rfl ?_
  refine K (x_field0 fa121_0 rfl) rfl ?_
  refine K (x_load ld62 rfl ((h.B.drew.drew).cell 0 rfl)) rfl ?_
  refine K (x_move (by conv => lhs; whnf)) rfl ?_
  refine K (x_nilc rfl) rfl ?_
  refine K (x_field0 fa121_2 rfl) rfl ?_
  refine K (x_load ld3 rfl ((h.B.drew.drew).cell 2 rfl)) rfl ?_
  refine K (x_move (by conv => lhs; whnf)) rfl ?_
  refine K (x_nilc rfl) rfl ?_
  refine K (x_field0 fa121_3 rfl) rfl ?_
  refine K (x_load ld3 rfl ((h.B.drew.drew).cell 3 rfl)) rfl ?_
  refine K (x_slice_lh Tryd.underlying62 sz5 rfl rfl rfl rfl rfl (by omega) (by omega)) rfl ?_
  refine K (x_assign (by conv => lhs; whnf)) rfl ?_
  refine KN ?_
  refine W_seq ?_
  refine W_region ?_
  refine V (x_move (by conv => lhs; whnf)) rfl ?_
  refine V (x_move (by conv => lhs; whnf)) rfl ?_
  refine V (x_nilc rfl) rfl ?_
  refine V (x_field0 fa121_3 rfl) rfl ?_
  refine V (x_load ld3 rfl ((h.B.drew.drew).cell 3 rfl)) rfl ?_
  refine V (x_nilc rfl) rfl ?_
  refine V (x_field0 fa121_2 rfl) rfl ?_
  refine S (x_store st3 rfl (by conv => lhs; whnf) rfl ((h.B.drew.drew).cell 2 rfl) ((h.B.drew.drew).free 2)) ?_
  refine WL_nil ?_
  have hB2 : BBlk _ b g s q q (errV er 0) lb lr := h.B.drew.drew.set 2 _
  refine W_seq ?_
  refine W_region ?_
  refine V (x_move (by conv => lhs; whnf)) rfl ?_
  refine C (x_call1 cf67 (by conv => lhs; whnf)) rfl ?_
  refine (readErr_ok b g s q q (errV er 0) lb lr _ rfl hB2).mono ?_
  rintro v w3 ⟨rfl, hB3, hO3⟩
  refine V (x_assign (by conv => lhs; whnf)) rfl ?_
  refine WL_nil ?_
  refine W_exit ?_
  repeat (first | with_reducible refine xt ?_ | with_reducible refine xb ?_ | with_reducible refine nt ?_ | with_reducible refine nb ?_ | with_reducible refine xn rfl ?_)
  have hk : u.length ≤ u.length := Nat.le_refl _
  have hlk : u.length = q - r := by omega
  have hli := h.buf.lies (g := g) _ hk
  rw [List.take_length] at hli
  have hq : r + u.length = q := he
  rw [hq] at hli
  have hea := h.buf.eat _ hk
  rw [hq, List.drop_length] at hea
  refine ⟨1, u, [], [], cs, q, q, i, prev, _, _, ⟨hB3, (h.G.drew.drew.far (Ne.symm h.bg) _).only hO3 (fun hh => h.bg hh.symm), (h.S.drew.drew.far (Ne.symm h.bs) _).only hO3 (fun hh => h.bs hh.symm), hea, h.rest, h.le, h.small⟩, by simp [hp], .inr (.inl ⟨rfl, rfl, not_mem_all hno (idx_none hix)⟩), hli, rfl, ?_, (endErr_1 er).symm, ?_⟩
  · rw [hlk]; rfl
  · exact (((hO.trans (Only.drew _ _)).trans (Only.drew _ _)).trans (Only.setCell _ _ (.inl rfl) _)).trans (hO3.mono fun _ _ hk => .inl hk)

theorem RsI_full (b g s : Nat) (p : Bytes) (lb lr : Int) (str : ByteArray) (er : Nat → Addr) (w0 w : World) (N : Env → World → Prop) (u rest : Bytes) (cs : List Value) (r q i : Nat) (prev : Int) (m : Nat) (f : Env)
    (h : BS w b g s .nilIface u rest cs r q lb lr str i prev) (hm : m ≤ u.length) (hno : (10 : UInt8) ∉ u.take m) (hp : u ++ rest = p) (hO : Only (Three b g s) w0 w) (hix : Lib.indexByte (u.drop m) 10 < 0) (hfull : u.length = 4096) (hG5 : w.cell? ⟨5, 0, none⟩ = some (errV er 5)) (_ : 5 < b) :
    W Tryd.prog Tryd.f58.ntmps (inC (inC (fstC (sndC (sndC (bodyOf Tryd.f58)))))) (thn N (inB 0 (thn (RsM b g s p lb lr str er w0) fun _ _ _ => False)))
      (upd (upd (upd (upd (upd f 0 (.pointer (some ⟨b, 0, none⟩))) 1 (.int .u8 10)) 4 (.slice none 0 0)) 5 .nilIface) 6 (.int .i64 (m : Int))) w := by
  have he := h.buf.eq
  have hle := h.buf.le
  conv => arg 3; whnf
  refine W_block ?_
  refine W_seq ?_
  refine W_seq ?_
  refine W_q mixed (by kernel_rfl) ?_
  refine K (x_move (by conv => lhs; whnf)) rfl ?_
  refine K (x_nilc rfl) rfl ?_
  refine K (x_field0 fa121_0 rfl) rfl ?_
  refine K (x_load ld62 rfl ((h.B.drew).cell 0 rfl)) rfl ?_
  refine K (x_move (by conv => lhs; whnf)) rfl ?_
  refine K (x_nilc rfl) rfl ?_
  refine K (x_field0 fa121_2 rfl) rfl ?_
  refine K (x_load ld3 rfl ((h.B.drew).cell 2 rfl)) rfl ?_
  refine K (x_move (by conv => lhs; whnf)) rfl ?_
  refine K (x_bin rfl rfl (ib_addn (m := r + m) (by omega) (by omega))) rfl ?_
  refine K (x_move (by conv => lhs; whnf)) rfl ?_
  refine K (x_nilc rfl) rfl ?_
  refine K (x_field0 fa121_3 rfl) rfl ?_
  refine K (x_load ld3 rfl ((h.B.drew).cell 3 rfl)) rfl ?_
  refine K (x_slice_lh Tryd.underlying62 sz5 rfl rfl rfl rfl rfl (by omega) (by omega)) rfl ?_
  refine K (x_move (by conv => lhs; whnf)) rfl ?_
  refine KC (fun _ => x_call2 cf53 (by conv => lhs; whnf) (by conv => lhs; whnf)) (IndexByte_n _ _ _ (u.drop m) 10 10 _ _ (h.buf.at_ h.G.drew m hm) (by simp; omega) rfl rfl) rfl ?_
  refine K (x_assign (by conv => lhs; whnf)) rfl ?_
  refine KN ?_
  refine W_seq ?_
  refine W_region ?_
  refine V (x_move (by conv => lhs; whnf)) rfl ?_
  refine V (x_bin rfl rfl (bf (decide_eq_false (by omega)))) rfl ?_
  refine WL_nil ?_
  refine W_false (rfl) ?_
  refine W_skip ?_
  refine W_seq ?_
  refine W_seq ?_
  refine W_region ?_
  refine V (x_move (by conv => lhs; whnf)) rfl ?_
  refine V (x_nilc rfl) rfl ?_
  refine V (x_field0 fa121_4 rfl) rfl ?_
  refine V (x_load ld55 rfl ((h.B.drew).cell 4 rfl)) rfl ?_
  refine V (x_neq_nil_nil Tryd.underlying55 rfl) rfl ?_
  refine WL_nil ?_
  refine W_false (rfl) ?_
  refine W_skip ?_
  refine W_seq ?_
  refine W_seq ?_
  refine W_quiet (Same w) mixed (by kernel_rfl) ((Same.drew w).trans (Same.drew _)) ?_
  refine B (fun w1 hw1 => x_move (by conv => lhs; whnf)) rfl ?_
  refine BC (fun _ => x_call1 cf68 (by conv => lhs; whnf)) (fun w1 hw1 => (Buffered_ok b g s r q .nilIface lb lr w1 (by omega) (by omega) (h.B.same hw1)).mono fun _ w2 ⟨h1, h2⟩ => ⟨h1, by rw [h2]; exact hw1.dr⟩) rfl ?_
  refine B (fun w1 hw1 => x_move (by conv => lhs; whnf)) rfl ?_
  refine B (fun w1 hw1 => x_nilc rfl) rfl ?_
  refine B (fun w1 hw1 => x_field0 fa121_0 rfl) rfl ?_
  refine B (fun w1 hw1 => x_load ld62 rfl (((h.B).same hw1).cell 0 rfl)) rfl ?_
  refine B (fun w1 hw1 => x_len_slice Tryd.underlying62 rfl) rfl ?_
  refine B (fun w1 hw1 => x_bin rfl rfl (bt (decide_eq_true (by omega)))) rfl ?_
  refine BN ?_
  intro w1 hw1
  refine W_true (rfl) ?_
  refine W_seq ?_
  refine W_region ?_
  refine V (x_move (by conv => lhs; whnf)) rfl ?_
  refine V (x_move (by conv => lhs; whnf)) rfl ?_
  refine V (x_nilc rfl) rfl ?_
  refine V (x_field0 fa121_3 rfl) rfl ?_
  refine V (x_load ld3 rfl (((h.B.same hw1)).cell 3 rfl)) rfl ?_
  refine V (x_nilc rfl) rfl ?_
  refine V (x_field0 fa121_2 rfl) rfl ?_
  refine S (x_store st3 rfl (by conv => lhs; whnf) rfl (((h.B.same hw1)).cell 2 rfl) (((h.B.same hw1)).free 2)) ?_
  refine WL_nil ?_
  have hB2 : BBlk _ b g s q q .nilIface lb lr := (h.B.same hw1).set 2 _
  refine W_seq ?_
  refine W_region ?_
  refine V (x_move (by conv => lhs; whnf)) rfl ?_
  refine V (x_nilc rfl) rfl ?_
  refine V (x_field0 fa121_0 rfl) rfl ?_
  refine V (x_load ld62 rfl ((hB2).cell 0 rfl)) rfl ?_
  refine V (x_assign (by conv => lhs; whnf)) rfl ?_
  refine WL_nil ?_
  refine W_seq ?_
  refine W_region ?_
  refine V (x_load ld55 rfl ((World.cell?_setCell_other _ _ _ _ (by intro hh; simp at hh)).trans ((hw1.cell _).trans hG5))) rfl ?_
  refine V (x_assign (by conv => lhs; whnf)) rfl ?_
  refine WL_nil ?_
  refine W_exit ?_
  repeat (first | with_reducible refine xt ?_ | with_reducible refine xb ?_ | with_reducible refine nt ?_ | with_reducible refine nb ?_ | with_reducible refine xn rfl ?_)
  have hr0 : r = 0 := by omega
  have hq0 : q = 4096 := by omega
  subst hr0 hq0
  have hli := h.buf.lies (g := g) u.length (Nat.le_refl _)
  rw [List.take_length, hfull] at hli
  have hea := h.buf.eat u.length (Nat.le_refl _)
  rw [List.drop_length, hfull] at hea
  refine ⟨2, u, [], rest, cs, 4096, 4096, i, prev, _, _, ⟨hB2, (h.G.same hw1).far (Ne.symm h.bg) _, (h.S.same hw1).far (Ne.symm h.bs) _, hea, h.rest, h.le, h.small⟩, by simp [hp], .inr (.inr ⟨rfl, hfull, not_mem_all hno (idx_none hix)⟩), hli, rfl, ?_, (endErr_2 er).symm, ?_⟩
  · rw [hfull]; rfl
  · exact (hO.trans (hw1.only _)).trans (Only.setCell _ _ (.inl rfl) _)

theorem RsI_more_eof (b g s : Nat) (p : Bytes) (lb lr : Int) (str : ByteArray) (er : Nat → Addr) (w0 w : World) (N : Env → World → Prop) (u _ : Bytes) (cs : List Value) (r q i : Nat) (prev : Int) (m : Nat) (f : Env)
    (h : BS w b g s .nilIface u [] cs r q lb lr str i prev) (hm : m ≤ u.length) (hno : (10 : UInt8) ∉ u.take m) (hp : u ++ [] = p) (hO : Only (Three b g s) w0 w) (hix : Lib.indexByte (u.drop m) 10 < 0) (hfull : u.length < 4096) (hG0 : w.cell? ⟨0, 0, none⟩ = some (errV er 0)) (hb0 : 0 < b) (hg0 : 0 < g)
    (hN : ∀ e w, RsI b g s p lb lr str er w0 0 e w → N e w) (Q : Exit → Env → World → Prop) :
    W Tryd.prog Tryd.f58.ntmps (inC (inC (fstC (sndC (sndC (bodyOf Tryd.f58)))))) (thn N Q) (upd (upd (upd (upd (upd f 0 (.pointer (some ⟨b, 0, none⟩))) 1 (.int .u8 10)) 4 (.slice none 0 0)) 5 .nilIface) 6 (.int .i64 (m : Int))) w := by
  have he := h.buf.eq
  have hle := h.buf.le
  conv => arg 3; whnf
  refine W_block ?_
  refine W_seq ?_
  refine W_seq ?_
  refine W_q mixed (by kernel_rfl) ?_
  refine K (x_move (by conv => lhs; whnf)) rfl ?_
  refine K (x_nilc rfl) rfl ?_
  refine K (x_field0 fa121_0 rfl) rfl ?_
  refine K (x_load ld62 rfl ((h.B.drew).cell 0 rfl)) rfl ?_
  refine K (x_move (by conv => lhs; whnf)) rfl ?_
  refine K (x_nilc rfl) rfl ?_
  refine K (x_field0 fa121_2 rfl) rfl ?_
  refine K (x_load ld3 rfl ((h.B.drew).cell 2 rfl)) rfl ?_
  refine K (x_move (by conv => lhs; whnf)) rfl ?_
  refine K (x_bin rfl rfl (ib_addn (m := r + m) (by omega) (by omega))) rfl ?_
  refine K (x_move (by conv => lhs; whnf)) rfl ?_
  refine K (x_nilc rfl) rfl ?_
  refine K (x_field0 fa121_3 rfl) rfl ?_
  refine K (x_load ld3 rfl ((h.B.drew).cell 3 rfl)) rfl ?_
  refine K (x_slice_lh Tryd.underlying62 sz5 rfl rfl rfl rfl rfl (by omega) (by omega)) rfl ?_
  refine K (x_move (by conv => lhs; whnf)) rfl ?_
  refine KC (fun _ => x_call2 cf53 (by conv => lhs; whnf) (by conv => lhs; whnf)) (IndexByte_n _ _ _ (u.drop m) 10 10 _ _ (h.buf.at_ h.G.drew m hm) (by simp; omega) rfl rfl) rfl ?_
  refine K (x_assign (by conv => lhs; whnf)) rfl ?_
  refine KN ?_
  refine W_seq ?_
  refine W_region ?_
  refine V (x_move (by conv => lhs; whnf)) rfl ?_
  refine V (x_bin rfl rfl (bf (decide_eq_false (by omega)))) rfl ?_
  refine WL_nil ?_
  refine W_false (rfl) ?_
  refine W_skip ?_
  refine W_seq ?_
  refine W_seq ?_
  refine W_region ?_
  refine V (x_move (by conv => lhs; whnf)) rfl ?_
  refine V (x_nilc rfl) rfl ?_
  refine V (x_field0 fa121_4 rfl) rfl ?_
  refine V (x_load ld55 rfl ((h.B.drew).cell 4 rfl)) rfl ?_
  refine V (x_neq_nil_nil Tryd.underlying55 rfl) rfl ?_
  refine WL_nil ?_
  refine W_false (rfl) ?_
  refine W_skip ?_
  refine W_seq ?_
  refine W_seq ?_
  refine W_quiet (Same w) mixed (by kernel_rfl) ((Same.drew w).trans (Same.drew _)) ?_
  refine B (fun w1 hw1 => x_move (by conv => lhs; whnf)) rfl ?_
  refine BC (fun _ => x_call1 cf68 (by conv => lhs; whnf)) (fun w1 hw1 => (Buffered_ok b g s r q .nilIface lb lr w1 (by omega) (by omega) (h.B.same hw1)).mono fun _ w2 ⟨h1, h2⟩ => ⟨h1, by rw [h2]; exact hw1.dr⟩) rfl ?_
  refine B (fun w1 hw1 => x_move (by conv => lhs; whnf)) rfl ?_
  refine B (fun w1 hw1 => x_nilc rfl) rfl ?_
  refine B (fun w1 hw1 => x_field0 fa121_0 rfl) rfl ?_
  refine B (fun w1 hw1 => x_load ld62 rfl (((h.B).same hw1).cell 0 rfl)) rfl ?_
  refine B (fun w1 hw1 => x_len_slice Tryd.underlying62 rfl) rfl ?_
  refine B (fun w1 hw1 => x_bin rfl rfl (bf (decide_eq_false (by omega)))) rfl ?_
  refine BN ?_
  intro w1 hw1
  refine W_false (rfl) ?_
  refine W_skip ?_
  refine W_seq ?_
  refine W_q mixed (by kernel_rfl) ?_
  refine K (x_move (by conv => lhs; whnf)) rfl ?_
  refine K (x_nilc rfl) rfl ?_
  refine K (x_field0 fa121_3 rfl) rfl ?_
  refine K (x_load ld3 rfl (((h.B.same hw1).drew).cell 3 rfl)) rfl ?_
  refine K (x_move (by conv => lhs; whnf)) rfl ?_
  refine K (x_nilc rfl) rfl ?_
  refine K (x_field0 fa121_2 rfl) rfl ?_
  refine K (x_load ld3 rfl (((h.B.same hw1).drew).cell 2 rfl)) rfl ?_
  refine K (x_bin rfl rfl (ib_subn (m := q - r) (by omega) (by omega))) rfl ?_
  refine K (x_assign (by conv => lhs; whnf)) rfl ?_
  refine KN ?_
  refine W_region ?_
  refine V (x_move (by conv => lhs; whnf)) rfl ?_
  refine C (x_call1 cf69 (by conv => lhs; whnf)) rfl ?_
  refine (fill_eof b g s u cs r q lb lr str i prev er _ (h.same hw1).drew ((hw1.cell _).trans hG0) hfull hg0 hb0).mono ?_
  rintro v w3 ⟨rfl, ⟨cs', r', q', h3⟩, hO3⟩
  refine WL_nil ?_
  repeat (first | with_reducible refine xt ?_ | with_reducible refine xb ?_ | with_reducible refine nt ?_ | with_reducible refine nb ?_ | with_reducible refine xn rfl ?_)
  exact hN _ _ ⟨u, [], _, cs', r', q', i, prev, q - r, h3, Or.inr ⟨rfl, rfl, rfl, by omega⟩, rfl, rfl, rfl, rfl, rfl, by omega, by rw [show q - r = u.length by omega, List.take_length]; exact not_mem_all hno (idx_none hix), hp, ((hO.trans (hw1.only _)).trans (Only.drew _ _)).trans hO3⟩
theorem RsI_more (b g s : Nat) (p : Bytes) (lb lr : Int) (str : ByteArray) (er : Nat → Addr) (w0 w : World) (N : Env → World → Prop) (u rest : Bytes) (cs : List Value) (r q i : Nat) (prev : Int) (m : Nat) (f : Env)
    (h : BS w b g s .nilIface u rest cs r q lb lr str i prev) (hm : m ≤ u.length) (hno : (10 : UInt8) ∉ u.take m) (hp : u ++ rest = p) (hO : Only (Three b g s) w0 w) (hix : Lib.indexByte (u.drop m) 10 < 0) (hfull : u.length < 4096) (hr : rest ≠ []) (hG0 : w.cell? ⟨0, 0, none⟩ = some (errV er 0)) (hb0 : 0 < b) (hg0 : 0 < g) (hs0 : 0 < s)
    (hN : ∀ k e w, k < 2 * rest.length + 1 → RsI b g s p lb lr str er w0 k e w → N e w) (Q : Exit → Env → World → Prop) :
    W Tryd.prog Tryd.f58.ntmps (inC (inC (fstC (sndC (sndC (bodyOf Tryd.f58)))))) (thn N Q) (upd (upd (upd (upd (upd f 0 (.pointer (some ⟨b, 0, none⟩))) 1 (.int .u8 10)) 4 (.slice none 0 0)) 5 .nilIface) 6 (.int .i64 (m : Int))) w := by
  have he := h.buf.eq
  have hle := h.buf.le
  conv => arg 3; whnf
  refine W_block ?_
  refine W_seq ?_
  refine W_seq ?_
  refine W_q mixed (by kernel_rfl) ?_
  refine K (x_move (by conv => lhs; whnf)) rfl ?_
  refine K (x_nilc rfl) rfl ?_
  refine K (x_field0 fa121_0 rfl) rfl ?_
  refine K (x_load ld62 rfl ((h.B.drew).cell 0 rfl)) rfl ?_
  refine K (x_move (by conv => lhs; whnf)) rfl ?_
  refine K (x_nilc rfl) rfl ?_
  refine K (x_field0 fa121_2 rfl) rfl ?_
  refine K (x_load ld3 rfl ((h.B.drew).cell 2 rfl)) rfl ?_
  refine K (x_move (by conv => lhs; whnf)) rfl ?_
  refine K (x_bin rfl rfl (ib_addn (m := r + m) (by omega) (by omega))) rfl ?_
  refine K (x_move (by conv => lhs; whnf)) rfl ?_
  refine K (x_nilc rfl) rfl ?_
  refine K (x_field0 fa121_3 rfl) rfl ?_
  refine K (x_load ld3 rfl ((h.B.drew).cell 3 rfl)) rfl ?_
  refine K (x_slice_lh Tryd.underlying62 sz5 rfl rfl rfl rfl rfl (by omega) (by omega)) rfl ?_
  refine K (x_move (by conv => lhs; whnf)) rfl ?_
  refine KC (fun _ => x_call2 cf53 (by conv => lhs; whnf) (by conv => lhs; whnf)) (IndexByte_n _ _ _ (u.drop m) 10 10 _ _ (h.buf.at_ h.G.drew m hm) (by simp; omega) rfl rfl) rfl ?_
  refine K (x_assign (by conv => lhs; whnf)) rfl ?_
  refine KN ?_
  refine W_seq ?_
  refine W_region ?_
  refine V (x_move (by conv => lhs; whnf)) rfl ?_
  refine V (x_bin rfl rfl (bf (decide_eq_false (by omega)))) rfl ?_
  refine WL_nil ?_
  refine W_false (rfl) ?_
  refine W_skip ?_
  refine W_seq ?_
  refine W_seq ?_
  refine W_region ?_
  refine V (x_move (by conv => lhs; whnf)) rfl ?_
  refine V (x_nilc rfl) rfl ?_
  refine V (x_field0 fa121_4 rfl) rfl ?_
  refine V (x_load ld55 rfl ((h.B.drew).cell 4 rfl)) rfl ?_
  refine V (x_neq_nil_nil Tryd.underlying55 rfl) rfl ?_
  refine WL_nil ?_
  refine W_false (rfl) ?_
  refine W_skip ?_
  refine W_seq ?_
  refine W_seq ?_
  refine W_quiet (Same w) mixed (by kernel_rfl) ((Same.drew w).trans (Same.drew _)) ?_
  refine B (fun w1 hw1 => x_move (by conv => lhs; whnf)) rfl ?_
  refine BC (fun _ => x_call1 cf68 (by conv => lhs; whnf)) (fun w1 hw1 => (Buffered_ok b g s r q .nilIface lb lr w1 (by omega) (by omega) (h.B.same hw1)).mono fun _ w2 ⟨h1, h2⟩ => ⟨h1, by rw [h2]; exact hw1.dr⟩) rfl ?_
  refine B (fun w1 hw1 => x_move (by conv => lhs; whnf)) rfl ?_
  refine B (fun w1 hw1 => x_nilc rfl) rfl ?_
  refine B (fun w1 hw1 => x_field0 fa121_0 rfl) rfl ?_
  refine B (fun w1 hw1 => x_load ld62 rfl (((h.B).same hw1).cell 0 rfl)) rfl ?_
  refine B (fun w1 hw1 => x_len_slice Tryd.underlying62 rfl) rfl ?_
  refine B (fun w1 hw1 => x_bin rfl rfl (bf (decide_eq_false (by omega)))) rfl ?_
  refine BN ?_
  intro w1 hw1
  refine W_false (rfl) ?_
  refine W_skip ?_
  refine W_seq ?_
  refine W_q mixed (by kernel_rfl) ?_
  refine K (x_move (by conv => lhs; whnf)) rfl ?_
  refine K (x_nilc rfl) rfl ?_
  refine K (x_field0 fa121_3 rfl) rfl ?_
  refine K (x_load ld3 rfl (((h.B.same hw1).drew).cell 3 rfl)) rfl ?_
  refine K (x_move (by conv => lhs; whnf)) rfl ?_
  refine K (x_nilc rfl) rfl ?_
  refine K (x_field0 fa121_2 rfl) rfl ?_
  refine K (x_load ld3 rfl (((h.B.same hw1).drew).cell 2 rfl)) rfl ?_
  refine K (x_bin rfl rfl (ib_subn (m := q - r) (by omega) (by omega))) rfl ?_
  refine K (x_assign (by conv => lhs; whnf)) rfl ?_
  refine KN ?_
  refine W_region ?_
  refine V (x_move (by conv => lhs; whnf)) rfl ?_
  refine C (x_call1 cf69 (by conv => lhs; whnf)) rfl ?_
  refine (fill_some b g s u rest cs r q lb lr str i prev er _ (h.same hw1).drew ((hw1.cell _).trans hG0) hfull hr hs0 hg0 hb0).mono ?_
  rintro v w3 ⟨rfl, ⟨k, hk0, hk, cs', r', q', i', prev', h3⟩, hO3⟩
  refine WL_nil ?_
  repeat (first | with_reducible refine xt ?_ | with_reducible refine xb ?_ | with_reducible refine nt ?_ | with_reducible refine nb ?_ | with_reducible refine xn rfl ?_)
  refine hN (2 * (rest.drop k).length + 1) _ _ (by simp; omega) ⟨_, _, _, cs', r', q', i', prev', q - r, h3, .inl ⟨rfl, rfl⟩, rfl, rfl, rfl, rfl, rfl, by simp; omega, ?_, by rw [List.append_assoc, List.take_append_drop]; exact hp, ((hO.trans (hw1.only _)).trans (Only.drew _ _)).trans hO3⟩
  rw [show q - r = u.length by omega, List.take_left]
  exact not_mem_all hno (idx_none hix)

/-- What a call of ReadSlice leaves. -/
def RsPost (b g s : Nat) (p : Bytes) (str : ByteArray) (er : Nat → Addr) (w0 : World) : Value → World → Prop := fun v w =>
  ∃ (k : Nat) (L u rest : Bytes) (cs : List Value) (r q i : Nat) (prev lb lr : Int) (A : Option Addr) (c : Nat), v = .tuple #[.slice A L.length c, endErr er k] ∧ BS w b g s .nilIface u rest cs r q lb lr str i prev ∧ p = L ++ (u ++ rest) ∧ Ends k L (u ++ rest) ∧ Lies g cs r A c L ∧ Only (Three b g s) w0 w
theorem ReadSlice_ok (b g s : Nat) (u rest : Bytes) (cs : List Value) (r q : Nat) (lb lr : Int) (str : ByteArray) (i : Nat) (prev : Int) (er : Nat → Addr) (w : World)
    (h : BS w b g s .nilIface u rest cs r q lb lr str i prev) (hG0 : w.cell? ⟨0, 0, none⟩ = some (errV er 0)) (hG5 : w.cell? ⟨5, 0, none⟩ = some (errV er 5)) (hb : 5 < b) (hg : 5 < g) (hs : 5 < s) :
    Ret Tryd.prog 58 #[.pointer (some ⟨b, 0, none⟩), .int .u8 10] w (RsPost b g s (u ++ rest) str er w) := by
  refine ret_of_W Tryd.func58 rfl (Nat.le_of_ble_eq_true rfl) ?_
  refine W_seq ?_
  refine W_region ?_
  refine V (x_assign (by conv => lhs; whnf)) rfl ?_
  refine V (x_assign (by conv => lhs; whnf)) rfl ?_
  refine WL_nil ?_
  refine W_seq ?_
  refine W_region ?_
  refine V (x_assign (by conv => lhs; whnf)) rfl ?_
  refine WL_nil ?_
  refine W_cut (RsM b g s (u ++ rest) lb lr str er w) ?_ ?_
  · refine W_block ?_
    refine W_loop (RsI b g s (u ++ rest) lb lr str er w) (k0 := 2 * rest.length + 1) ⟨u, rest, _, cs, r, q, i, prev, 0, h, .inl ⟨rfl, rfl⟩, rfl, rfl, rfl, rfl, rfl, by omega, by simp, rfl, Only.refl _ _⟩ ?_
    rintro k e w1 ⟨u1, rest1, err1, cs1, r1, q1, i1, prev1, m, h1, herr, e0, e1, e4, e5, e6, hm, hno, hp, hO⟩
    rw [← upd_self e0, ← upd_self (e := upd e 0 _) (d := 1) e1, ← upd_self (e := upd (upd e 0 _) 1 _) (d := 4) e4, ← upd_self (e := upd (upd (upd e 0 _) 1 _) 4 _) (d := 5) e5, ← upd_self (e := upd (upd (upd (upd e 0 _) 1 _) 4 _) 5 _) (d := 6) e6]
    have g0 : w1.cell? ⟨0, 0, none⟩ = some (errV er 0) := (World.cell?_of_block (hO.block 0 (cell_lt hG0) (by unfold Three; omega))).trans hG0
    have g5 : w1.cell? ⟨5, 0, none⟩ = some (errV er 5) := (World.cell?_of_block (hO.block 5 (cell_lt hG5) (by unfold Three; omega))).trans hG5
    by_cases hix : Lib.indexByte (u1.drop m) 10 < 0
    · rcases herr with ⟨rfl, rfl⟩ | ⟨rfl, rfl, rfl, hmu⟩
      · by_cases hfull : u1.length = 4096
        · exact RsI_full b g s _ lb lr str er w w1 _ u1 rest1 cs1 r1 q1 i1 prev1 m _ h1 hm hno hp hO hix hfull g5 hb
        · have hlt : u1.length < 4096 := by have := h1.buf.eq; have := h1.buf.le; omega
          by_cases hr : rest1 = []
          · subst hr
            exact RsI_more_eof b g s _ lb lr str er w w1 _ u1 [] cs1 r1 q1 i1 prev1 m _ h1 hm hno hp hO hix hlt g0 (by omega) (by omega) (fun e w hI => ⟨0, by simp, hI⟩) _
          · exact RsI_more b g s _ lb lr str er w w1 _ u1 rest1 cs1 r1 q1 i1 prev1 m _ h1 hm hno hp hO hix hlt hr g0 (by omega) (by omega) (by omega) (fun k e w hk hI => ⟨k, hk, hI⟩) _
      · exact RsI_eof b g s _ lb lr str er w w1 _ u1 [] cs1 r1 q1 i1 prev1 m _ h1 hm hno (by simpa using hp) hO hix
    · obtain ⟨l0, l1, hl, hn0, hi0⟩ := idx_some (l := u1.drop m) (b := 10) (by omega)
      rcases herr with ⟨rfl, rfl⟩ | ⟨rfl, rfl, rfl, hmu⟩
      · exact RsI_found b g s _ lb lr str er w w1 _ u1 rest1 _ cs1 r1 q1 i1 prev1 m _ l0 l1 h1 rfl hm hno hp hO hl hn0 hi0
      · rw [hmu, List.drop_length] at hl; simp at hl
  · rintro e w1 ⟨k, L, u1, rest1, cs1, r1, q1, i1, prev1, A, c, h1, hp, hE, hL, e0, e4, e5, hO⟩
    rw [← upd_self e0, ← upd_self (e := upd e 0 _) (d := 4) e4, ← upd_self (e := upd (upd e 0 _) 4 _) (d := 5) e5]
    by_cases hn : L = []
    · subst hn
      refine W_seq ?_
      refine W_seq ?_
      refine W_region ?_
      refine V (x_move (by conv => lhs; whnf)) rfl ?_
      refine V (x_len_slice Tryd.underlying62 rfl) rfl ?_
      refine V (x_bin rfl rfl (ib_sub (by decide) (by decide))) rfl ?_
      refine V (x_assign (by conv => lhs; whnf)) rfl ?_
      refine WL_nil ?_
      refine W_seq ?_
      refine W_region ?_
      refine V (x_move (by conv => lhs; whnf)) rfl ?_
      refine V (x_bin rfl rfl (bf rfl)) rfl ?_
      refine WL_nil ?_
      refine W_false (rfl) ?_
      refine W_skip ?_
      refine W_ret ?_
      repeat (with_reducible (first | refine rt ?_ | refine rb ?_))
      exact bodyE_2 rfl (by conv => lhs; whnf) (by conv => lhs; whnf) ⟨k, [], u1, rest1, cs1, r1, q1, i1, prev1, lb, lr, A, c, rfl, h1, hp, hE, hL, hO⟩
    · have hlp : 0 < L.length := List.length_pos_iff.2 hn
      obtain ⟨o, rfl, hor, hc⟩ := hL.cells hn
      have hor2 := h1.buf.le
      have hor3 := h1.buf.eq
      refine W_seq ?_
      refine W_seq ?_
      refine W_region ?_
      refine V (x_move (by conv => lhs; whnf)) rfl ?_
      refine V (x_len_slice Tryd.underlying62 rfl) rfl ?_
      refine V (x_bin rfl rfl (ib_subn (m := L.length - 1) (by omega) (by omega))) rfl ?_
      refine V (x_assign (by conv => lhs; whnf)) rfl ?_
      refine WL_nil ?_
      refine W_seq ?_
      refine W_region ?_
      refine V (x_move (by conv => lhs; whnf)) rfl ?_
      refine V (x_bin rfl rfl (bt (decide_eq_true (by omega)))) rfl ?_
      refine WL_nil ?_
      refine W_true (rfl) ?_
      refine W_seq ?_
      refine W_region ?_
      refine V (x_move (by conv => lhs; whnf)) rfl ?_
      refine V (x_move (by conv => lhs; whnf)) rfl ?_
      refine V (x_move (by conv => lhs; whnf)) rfl ?_
      refine V (x_index Tryd.underlying62 sz5 rfl rfl rfl (by omega)) rfl ?_
      refine V (x_load ld5 rfl (h1.G.cell _ (hc (L.length - 1) _ (List.getElem?_eq_getElem (by omega))))) rfl ?_
      refine V (x_convi Tryd.underlying5 Tryd.underlying3 rfl) rfl ?_
      refine V (x_nilc rfl) rfl ?_
      refine V (x_field0 fa121_5 rfl) rfl ?_
      refine S (x_store st3 rfl (by conv => lhs; whnf) rfl ((h1.B).cell 5 rfl) ((h1.B).free 5)) ?_
      refine WL_nil ?_
      have hB2 := h1.B.set 5 (.int .i64 (IntKind.i64.wrap ((L[L.length - 1]'(by omega)).toNat : Int)))
      refine W_region ?_
      refine V (x_move (by conv => lhs; whnf)) rfl ?_
      refine V (x_nilc rfl) rfl ?_
      refine V (x_field0 fa121_6 rfl) rfl ?_
      refine S (x_store st3 rfl (by conv => lhs; whnf) rfl ((hB2).cell 6 rfl) ((hB2).free 6)) ?_
      refine WL_nil ?_
      refine W_ret ?_
      repeat (with_reducible (first | refine rt ?_ | refine rb ?_))
      exact bodyE_2 rfl (by conv => lhs; whnf) (by conv => lhs; whnf) ⟨k, L, u1, rest1, cs1, r1, q1, i1, prev1, _, -1, _, c, rfl, ⟨hB2.set 6 _, (h1.G.far (Ne.symm h1.bg) _).far (Ne.symm h1.bg) _, (h1.S.far (Ne.symm h1.bs) _).far (Ne.symm h1.bs) _, h1.buf, h1.rest, h1.le, h1.small⟩, hp, hE, hL, hO.trans ((Only.setCell _ _ (.inl rfl) _).trans (Only.setCell _ _ (.inl rfl) _))⟩
end Go.Proofs.YtcdhbfhijkdfoaaDoor
