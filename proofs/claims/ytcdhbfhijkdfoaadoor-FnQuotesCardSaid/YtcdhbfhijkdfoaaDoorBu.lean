/-
  bufio: readErr, Buffered, fill.
-/
import Derived.Test.YtcdhbfhijkdfoaaDoorIb
namespace Go.Proofs.YtcdhbfhijkdfoaaDoor
open Go.EC Go.RowKit

/-- A bufio.Reader at block b: its buffer is block g, its source the strings.Reader at block s. -/
def BBlk (w : World) (b g s : Nat) (r q : Nat) (err : Value) (lb lr : Int) : Prop :=
  Blk w b 121 [.slice (some ⟨g, 0, none⟩) 4096 4096, .iface 66 (.pointer (some ⟨s, 0, none⟩)), .int .i64 r, .int .i64 q, err, .int .i64 lb, .int .i64 lr]

theorem readErr_ok (b g s r q : Nat) (err : Value) (lb lr : Int) (w : World) (_ : err.oneCell' = true) (hB : BBlk w b g s r q err lb lr) :
    Ret Tryd.prog 67 #[.pointer (some ⟨b, 0, none⟩)] w fun v w' => v = err ∧ BBlk w' b g s r q .nilIface lb lr ∧ Only (· = b) w w' := by
  refine ret_of_W Tryd.func67 rfl (Nat.le_of_ble_eq_true rfl) ?_
  refine W_seq ?_
  refine W_region ?_
  refine V (x_assign (by conv => lhs; whnf)) rfl ?_
  refine WL_nil ?_
  refine W_seq ?_
  refine W_region ?_
  refine V (x_move (by conv => lhs; whnf)) rfl ?_
  refine V (x_nilc rfl) rfl ?_
  refine V (x_field0 fa121_4 rfl) rfl ?_
  refine V (x_load ld55 rfl ((hB).cell 4 rfl)) rfl ?_
  refine V (x_assign (by conv => lhs; whnf)) rfl ?_
  refine WL_nil ?_
  refine W_seq ?_
  refine W_region ?_
  refine V (x_move (by conv => lhs; whnf)) rfl ?_
  refine V (x_nilc rfl) rfl ?_
  refine V (x_field0 fa121_4 rfl) rfl ?_
  refine S (x_store st55 rfl (by conv => lhs; whnf) rfl ((hB).cell 4 rfl) ((hB).free 4)) ?_
  refine WL_nil ?_
  refine W_seq ?_
  refine W_region ?_
  refine V (x_move (by conv => lhs; whnf)) rfl ?_
  refine V (x_assign (by conv => lhs; whnf)) rfl ?_
  refine WL_nil ?_
  refine W_ret ?_
  repeat (with_reducible (first | refine rt ?_ | refine rb ?_))
  exact bodyE_1 rfl (by conv => lhs; whnf) ⟨rfl, hB.set 4 _, Only.setCell (· = b) _ rfl _⟩

theorem Buffered_ok (b g s r q : Nat) (err : Value) (lb lr : Int) (w : World) (hrq : r ≤ q) (hq : q ≤ 4096) (hB : BBlk w b g s r q err lb lr) :
    Ret Tryd.prog 68 #[.pointer (some ⟨b, 0, none⟩)] w fun v w' => v = .int .i64 ((q - r : Nat) : Int) ∧ w' = dr w := by
  refine ret_of_W Tryd.func68 rfl (Nat.le_of_ble_eq_true rfl) ?_
  refine W_seq ?_
  refine W_region ?_
  refine V (x_assign (by conv => lhs; whnf)) rfl ?_
  refine WL_nil ?_
  refine W_seq ?_
  refine W_q mixed (by kernel_rfl) ?_
  refine K (x_move (by conv => lhs; whnf)) rfl ?_
  refine K (x_nilc rfl) rfl ?_
  refine K (x_field0 fa121_3 rfl) rfl ?_
  refine K (x_load ld3 rfl ((hB.drew).cell 3 rfl)) rfl ?_
  refine K (x_move (by conv => lhs; whnf)) rfl ?_
  refine K (x_nilc rfl) rfl ?_
  refine K (x_field0 fa121_2 rfl) rfl ?_
  refine K (x_load ld3 rfl ((hB.drew).cell 2 rfl)) rfl ?_
  refine K (x_bin rfl rfl (ib_subn (m := q - r) (by omega) (by omega))) rfl ?_
  refine K (x_assign (by conv => lhs; whnf)) rfl ?_
  refine KN ?_
  refine W_ret ?_
  repeat (with_reducible (first | refine rt ?_ | refine rb ?_))
  exact bodyE_1 rfl (by conv => lhs; whnf) ⟨rfl, rfl⟩

/-- The unread bytes u lie in the buffer from r on. -/
structure Buf (cs : List Value) (r q : Nat) (u : Bytes) : Prop where
  len : cs.length = 4096
  eq : r + u.length = q
  le : q ≤ 4096
  cells : ∀ j b, u[j]? = some b → cs[r + j]? = some (bv b)
  one : ∀ v ∈ cs, v.oneCell' = true
/-- What a bufio.Reader over a strings.Reader stands at: u unread in the buffer, rest not yet fetched. -/
structure BS (w : World) (b g s : Nat) (err : Value) (u rest : Bytes) (cs : List Value) (r q : Nat) (lb lr : Int) (str : ByteArray) (i : Nat) (prev : Int) : Prop where
  B : BBlk w b g s r q err lb lr
  G : Blk w g 5 cs
  S : SBlk w s str i prev
  buf : Buf cs r q u
  rest : str.data.toList.drop i = rest
  le : i ≤ str.size
  small : str.size ≤ 2147483648
/-- The blocks of the reader. -/
def Three (b g s : Nat) : Nat → Prop := fun k => k = b ∨ k = g ∨ k = s
theorem callRead (a : Addr) (v : Value) (w : World) : (callMethod (.iface 66 (.pointer (some a))) "Read" #[v]).run Tryd.prog w = .ok (.enter 91 #[.pointer (some a), v]) w := by kernel_rfl

section
variable {w w' : World} {b g s : Nat} {err : Value} {u rest : Bytes} {cs : List Value} {r q : Nat} {lb lr : Int} {str : ByteArray} {i : Nat} {prev : Int}
theorem BS.drew (h : BS w b g s err u rest cs r q lb lr str i prev) : BS (dr w) b g s err u rest cs r q lb lr str i prev := ⟨h.B, h.G, h.S, h.buf, h.rest, h.le, h.small⟩
theorem BS.same (h : BS w b g s err u rest cs r q lb lr str i prev) (hs : Same w w') : BS w' b g s err u rest cs r q lb lr str i prev := ⟨h.B.same hs, h.G.same hs, h.S.same hs, h.buf, h.rest, h.le, h.small⟩
theorem BS.bg (h : BS w b g s err u rest cs r q lb lr str i prev) : b ≠ g := h.B.ne h.G (by decide)
theorem BS.bs (h : BS w b g s err u rest cs r q lb lr str i prev) : b ≠ s := h.B.ne h.S (by decide)
theorem BS.sg (h : BS w b g s err u rest cs r q lb lr str i prev) : s ≠ g := h.S.ne h.G (by decide)
theorem BS.rlen (h : BS w b g s err u rest cs r q lb lr str i prev) : rest.length = str.size - i := by rw [← h.rest, List.length_drop, ba_len]
end

theorem Buf.grow {cs : List Value} {r q : Nat} {u : Bytes} (h : Buf cs r q u) (v : Bytes) (hv : q + v.length ≤ 4096) : Buf (splice cs q (v.map bv)) r (q + v.length) (u ++ v) := by
  have hl := h.len
  have he := h.eq
  refine ⟨by rw [splice_length (by simp; omega), hl], by simp; omega, hv, fun j b hb => ?_, fun x hx => ?_⟩
  · unfold splice
    rw [List.append_assoc]
    by_cases hj : j < u.length
    · rw [List.getElem?_append_left (by simp; omega), List.getElem?_take, if_pos (by omega)]
      exact h.cells j b (by rwa [List.getElem?_append_left hj] at hb)
    · rw [List.getElem?_append_right (by omega)] at hb
      rw [List.getElem?_append_right (by simp; omega)]
      have hjl : j - u.length < v.length := (List.getElem?_eq_some_iff.1 hb).1
      rw [List.getElem?_append_left (by simp; omega), List.getElem?_map]
      have : r + j - (cs.take q).length = j - u.length := by simp; omega
      rw [this, hb]
      rfl
  · unfold splice at hx
    rw [List.append_assoc, List.mem_append, List.mem_append] at hx
    rcases hx with hx | hx | hx
    · exact h.one x (List.mem_of_mem_take hx)
    · rw [List.mem_map] at hx; obtain ⟨b, _, rfl⟩ := hx; rfl
    · exact h.one x (List.mem_of_mem_drop hx)
theorem Buf.slide {cs : List Value} {r q : Nat} {u : Bytes} (h : Buf cs r q u) : Buf (splice cs 0 ((cs.drop r).take (q - r))) 0 (q - r) u := by
  have hl := h.len
  have he := h.eq
  have hle := h.le
  have hsl : ((cs.drop r).take (q - r)).length = q - r := by simp; omega
  refine ⟨by rw [splice_length (by omega), hl], by omega, by omega, fun j b hb => ?_, fun x hx => ?_⟩
  · have hjl : j < u.length := (List.getElem?_eq_some_iff.1 hb).1
    unfold splice
    rw [Nat.zero_add, List.take_zero, List.nil_append, List.getElem?_append_left (by omega), List.getElem?_take, if_pos (by omega), List.getElem?_drop]
    rw [Nat.zero_add]
    exact h.cells j b hb
  · unfold splice at hx
    rw [List.append_assoc, List.mem_append, List.mem_append] at hx
    rcases hx with hx | hx | hx
    · exact h.one x (List.mem_of_mem_take hx)
    · exact h.one x (List.mem_of_mem_drop (List.mem_of_mem_take hx))
    · exact h.one x (List.mem_of_mem_drop hx)
theorem BS.src {w : World} {b g s : Nat} {err : Value} {u rest : Bytes} {cs : List Value} {r q : Nat} {lb lr : Int} {str : ByteArray} {i : Nat} {prev : Int} (h : BS w b g s err u rest cs r q lb lr str i prev) :
    0 < q - r → ∃ g' o', (if 4096 = r then some (⟨g, 0, none⟩ : Addr) else Option.map (fun x => x.add r) (some (⟨g, 0, none⟩ : Addr))) = some ⟨g', o', none⟩ ∧ ∀ j v, ((cs.drop r).take (q - r))[j]? = some v → (dr w).cell? ⟨g', o' + j, none⟩ = some v := by
  intro hp
  have hle := h.buf.le
  refine ⟨g, r, by rw [if_neg (by omega)]; simp [add_none], fun j v hj => ?_⟩
  rw [List.getElem?_take] at hj
  split at hj
  · rw [List.getElem?_drop] at hj
    exact h.G.drew.cell (r + j) hj
  · cases hj

/-- What fill leaves where the source is at its end. -/
def FillEof (b g s : Nat) (u : Bytes) (lb lr : Int) (str : ByteArray) (i : Nat) (prev : Int) (er : Nat → Addr) (w : World) : Value → World → Prop := fun v w' =>
  v = .tuple #[] ∧ (∃ cs' r' q', BS w' b g s (errV er 0) u [] cs' r' q' lb lr str i prev) ∧ Only (Three b g s) w w'
/-- .. and where it is not. -/
def FillSome (b g s : Nat) (u rest : Bytes) (lb lr : Int) (str : ByteArray) (w : World) : Value → World → Prop := fun v w' =>
  v = .tuple #[] ∧ (∃ k, 0 < k ∧ k ≤ rest.length ∧ ∃ cs' r' q' i' prev', BS w' b g s .nilIface (u ++ rest.take k) (rest.drop k) cs' r' q' lb lr str i' prev') ∧ Only (Three b g s) w w'

theorem fillT_eof (b g s : Nat) (u : Bytes) (cs : List Value) (q : Nat) (lb lr : Int) (str : ByteArray) (i : Nat) (prev : Int) (er : Nat → Addr) (w : World)
    (h : BS w b g s .nilIface u [] cs 0 q lb lr str i prev) (hG0 : w.cell? ⟨0, 0, none⟩ = some (errV er 0)) (hu : u.length < 4096) (e : Env) (he : e 0 = .pointer (some ⟨b, 0, none⟩)) :
    W Tryd.prog Tryd.f69.ntmps (sndC (bodyOf Tryd.f69)) (bodyE Tryd.prog Tryd.f69 (FillEof b g s u lb lr str i prev er w)) e w := by
  have hi : str.size ≤ i := by have := h.rlen; simp at this; omega
  have hq : q = u.length := by have := h.buf.eq; omega
  rw [← upd_self he]
  conv => arg 3; whnf
  refine W_seq ?_
  refine W_seq ?_
  refine W_q mixed (by kernel_rfl) ?_
  refine K (x_move (by conv => lhs; whnf)) rfl ?_
  refine K (x_nilc rfl) rfl ?_
  refine K (x_field0 fa121_3 rfl) rfl ?_
  refine K (x_load ld3 rfl ((h.B.drew).cell 3 rfl)) rfl ?_
  refine K (x_move (by conv => lhs; whnf)) rfl ?_
  refine K (x_nilc rfl) rfl ?_
  refine K (x_field0 fa121_0 rfl) rfl ?_
  refine K (x_load ld62 rfl ((h.B.drew).cell 0 rfl)) rfl ?_
  refine K (x_len_slice Tryd.underlying62 rfl) rfl ?_
  refine K (x_bin rfl rfl (bf (decide_eq_false (by omega)))) rfl ?_
  refine KN ?_
  refine W_false (rfl) ?_
  refine W_skip ?_
  refine W_seq ?_
  refine W_seq ?_
  refine W_region ?_
  refine V (x_assign (by conv => lhs; whnf)) rfl ?_
  refine WL_nil ?_
  refine W_block ?_
  refine W_once ?_
  refine W_seq ?_
  refine W_seq ?_
  refine W_region ?_
  refine V (x_move (by conv => lhs; whnf)) rfl ?_
  refine V (x_bin rfl rfl (bt (decide_eq_true (by omega)))) rfl ?_
  refine WL_nil ?_
  refine W_true (rfl) ?_
  refine W_skip ?_
  refine W_seq ?_
  refine W_block ?_
  refine W_seq ?_
  refine W_draw mixed ?_
  refine D_pure (i := 0) (listed' := #[true, false, false, false, false, false, false, false, false, false, false, false, false, false, false, false, false, false, false, false, false]) (by kernel_rfl) (by kernel_rfl) (by kernel_rfl) rfl (by kernel_rfl) (fun _ => x_move (by conv => lhs; whnf)) rfl ?_
  refine D_pure (i := 1) (listed' := #[true, true, false, false, false, false, false, false, false, false, false, false, false, false, false, false, false, false, false, false, false]) (by kernel_rfl) (by kernel_rfl) (by kernel_rfl) rfl (by kernel_rfl) (fun _ => x_nilc rfl) rfl ?_
  refine D_pure (i := 2) (listed' := #[true, true, true, false, false, false, false, false, false, false, false, false, false, false, false, false, false, false, false, false, false]) (by kernel_rfl) (by kernel_rfl) (by kernel_rfl) rfl (by kernel_rfl) (fun _ => x_field0 fa121_1 rfl) rfl ?_
  refine D_pure (i := 4) (listed' := #[true, true, true, false, true, false, false, false, false, false, false, false, false, false, false, false, false, false, false, false, false]) (by kernel_rfl) (by kernel_rfl) (by kernel_rfl) rfl (by kernel_rfl) (fun _ => x_move (by conv => lhs; whnf)) rfl ?_
  refine D_pure (i := 5) (listed' := #[true, true, true, false, true, true, false, false, false, false, false, false, false, false, false, false, false, false, false, false, false]) (by kernel_rfl) (by kernel_rfl) (by kernel_rfl) rfl (by kernel_rfl) (fun _ => x_nilc rfl) rfl ?_
  refine D_pure (i := 6) (listed' := #[true, true, true, false, true, true, true, false, false, false, false, false, false, false, false, false, false, false, false, false, false]) (by kernel_rfl) (by kernel_rfl) (by kernel_rfl) rfl (by kernel_rfl) (fun _ => x_field0 fa121_0 rfl) rfl ?_
  refine D_pure (i := 8) (listed' := #[true, true, true, false, true, true, true, false, true, false, false, false, false, false, false, false, false, false, false, false, false]) (by kernel_rfl) (by kernel_rfl) (by kernel_rfl) rfl (by kernel_rfl) (fun _ => x_move (by conv => lhs; whnf)) rfl ?_
  refine D_pure (i := 9) (listed' := #[true, true, true, false, true, true, true, false, true, true, false, false, false, false, false, false, false, false, false, false, false]) (by kernel_rfl) (by kernel_rfl) (by kernel_rfl) rfl (by kernel_rfl) (fun _ => x_nilc rfl) rfl ?_
  refine D_pure (i := 10) (listed' := #[true, true, true, false, true, true, true, false, true, true, true, false, false, false, false, false, false, false, false, false, false]) (by kernel_rfl) (by kernel_rfl) (by kernel_rfl) rfl (by kernel_rfl) (fun _ => x_field0 fa121_3 rfl) rfl ?_
  refine D_still (i := 3) (listed' := #[true, true, true, true, true, true, true, false, true, true, true, false, false, false, false, false, false, false, false, false, false]) (by kernel_rfl) (by kernel_rfl) (by kernel_rfl) rfl (by kernel_rfl) (fun _ hgw => x_load ld75 rfl (hgw.cell ((h.B.drew.drew).cell 1 rfl))) rfl ?_
  refine D_pure (i := 13) (listed' := #[true, true, true, true, true, true, true, false, true, true, true, false, false, true, false, false, false, false, false, false, false]) (by kernel_rfl) (by kernel_rfl) (by kernel_rfl) rfl (by kernel_rfl) (fun _ => x_nilc_iface rfl) rfl ?_
  refine D_pure (i := 14) (listed' := #[true, true, true, true, true, true, true, false, true, true, true, false, false, true, true, false, false, false, false, false, false]) (by kernel_rfl) (by kernel_rfl) (by kernel_rfl) rfl (by kernel_rfl) (fun _ => x_move (by conv => lhs; whnf)) rfl ?_
  refine D_still (i := 7) (listed' := #[true, true, true, true, true, true, true, true, true, true, true, false, false, true, true, false, false, false, false, false, false]) (by kernel_rfl) (by kernel_rfl) (by kernel_rfl) rfl (by kernel_rfl) (fun _ hgw => x_load ld62 rfl (hgw.cell ((h.B.drew.drew).cell 0 rfl))) rfl ?_
  refine D_one (i := 11) (listed' := #[true, true, true, true, true, true, true, true, true, true, true, true, false, true, true, false, false, false, false, false, false]) (by kernel_rfl) rfl (by kernel_rfl) (x_load ld3 rfl ((h.B.drew.drew).cell 3 rfl)) rfl ?_
  refine D_pure (i := 12) (listed' := #[true, true, true, true, true, true, true, true, true, true, true, true, true, true, true, false, false, false, false, false, false]) (by kernel_rfl) (by kernel_rfl) (by kernel_rfl) rfl (by kernel_rfl) (fun _ => x_slice_l0 Tryd.underlying62 sz5 rfl rfl rfl (by omega) (by omega)) rfl ?_
  refine D_oneC (i := 15) (listed' := #[true, true, true, true, true, true, true, true, true, true, true, true, true, true, true, true, false, false, false, false, false]) (by kernel_rfl) rfl (by kernel_rfl) (x_invoke1 (by conv => lhs; whnf) (by conv => lhs; whnf) (callRead _ _)) rfl ?_
  refine (Read_eof s i g q _ _ str prev cs er (dr (dr w)) h.S h.G hG0 hi).mono ?_
  rintro v w9 ⟨rfl, hS9, hG9, hO9⟩
  have hB9 : BBlk w9 b g s 0 q .nilIface lb lr := h.B.drew.drew.only hO9 (fun h => h)
  refine D_pure (i := 16) (listed' := #[true, true, true, true, true, true, true, true, true, true, true, true, true, true, true, true, true, false, false, false, false]) (by kernel_rfl) (by kernel_rfl) (by kernel_rfl) rfl (by kernel_rfl) (fun _ => x_move (by conv => lhs; whnf)) rfl ?_
  refine D_pure (i := 17) (listed' := #[true, true, true, true, true, true, true, true, true, true, true, true, true, true, true, true, true, true, false, false, false]) (by kernel_rfl) (by kernel_rfl) (by kernel_rfl) rfl (by kernel_rfl) (fun _ => x_extract rfl rfl) rfl ?_
  refine D_pure (i := 18) (listed' := #[true, true, true, true, true, true, true, true, true, true, true, true, true, true, true, true, true, true, true, false, false]) (by kernel_rfl) (by kernel_rfl) (by kernel_rfl) rfl (by kernel_rfl) (fun _ => x_extract rfl rfl) rfl ?_
  refine D_pure (i := 19) (listed' := #[true, true, true, true, true, true, true, true, true, true, true, true, true, true, true, true, true, true, true, true, false]) (by kernel_rfl) (by kernel_rfl) (by kernel_rfl) rfl (by kernel_rfl) (fun _ => x_assign (by conv => lhs; whnf)) rfl ?_
  refine D_pure (i := 20) (listed' := #[true, true, true, true, true, true, true, true, true, true, true, true, true, true, true, true, true, true, true, true, true]) (by kernel_rfl) (by kernel_rfl) (by kernel_rfl) rfl (by kernel_rfl) (fun _ => x_assign (by conv => lhs; whnf)) rfl ?_
  refine WA_done (by kernel_rfl) ?_
  refine W_seq ?_
  refine W_seq ?_
  refine W_region ?_
  refine V (x_move (by conv => lhs; whnf)) rfl ?_
  refine V (x_bin rfl rfl (bf (decide_eq_false (by omega)))) rfl ?_
  refine WL_nil ?_
  refine W_false (rfl) ?_
  refine W_skip ?_
  refine W_seq ?_
  refine W_region ?_
  refine V (x_move (by conv => lhs; whnf)) rfl ?_
  refine V (x_nilc rfl) rfl ?_
  refine V (x_field0 fa121_3 rfl) rfl ?_
  refine V (x_load ld3 rfl ((hB9).cell 3 rfl)) rfl ?_
  refine V (x_move (by conv => lhs; whnf)) rfl ?_
  refine V (x_bin rfl rfl (ib_addn (m := q) (by omega) (by omega))) rfl ?_
  refine V (x_nilc rfl) rfl ?_
  refine V (x_field0 fa121_3 rfl) rfl ?_
  refine S (x_store st3 rfl (by conv => lhs; whnf) rfl ((hB9).cell 3 rfl) ((hB9).free 3)) ?_
  refine WL_nil ?_
  have hB10 := hB9.set 3 (.int .i64 (q : Int))
  refine W_seq ?_
  refine W_seq ?_
  refine W_region ?_
  refine V (x_move (by conv => lhs; whnf)) rfl ?_
  refine V (x_neq_held Tryd.underlying55 rfl) rfl ?_
  refine WL_nil ?_
  refine W_true (rfl) ?_
  refine W_seq ?_
  refine W_region ?_
  refine V (x_move (by conv => lhs; whnf)) rfl ?_
  refine V (x_move (by conv => lhs; whnf)) rfl ?_
  refine V (x_nilc rfl) rfl ?_
  refine V (x_field0 fa121_4 rfl) rfl ?_
  refine S (x_store st55 rfl (by conv => lhs; whnf) rfl ((hB10).cell 4 rfl) ((hB10).free 4)) ?_
  refine WL_nil ?_
  refine W_ret ?_
  repeat (with_reducible (first | refine rt ?_ | refine rb ?_))
  refine bodyE_0r rfl ⟨rfl, ⟨cs, 0, q, ⟨hB10.set 4 _, (hG9.far (Ne.symm h.bg) _).far (Ne.symm h.bg) _, (hS9.far (Ne.symm h.bs) _).far (Ne.symm h.bs) _, h.buf, h.rest, h.le, h.small⟩⟩, ?_⟩
  exact (((Only.drew _ _).trans (Only.drew _ _)).trans (hO9.mono fun _ _ hf => hf.elim)).trans ((Only.setCell _ _ (.inl rfl) _).trans (Only.setCell _ _ (.inl rfl) _))

theorem fillT_some (b g s : Nat) (u rest : Bytes) (cs : List Value) (q : Nat) (lb lr : Int) (str : ByteArray) (i : Nat) (prev : Int) (er : Nat → Addr) (w : World)
    (h : BS w b g s .nilIface u rest cs 0 q lb lr str i prev) (hG0 : w.cell? ⟨0, 0, none⟩ = some (errV er 0)) (hu : u.length < 4096) (hr : rest ≠ []) (hs0 : 0 < s) (hg0 : 0 < g) (e : Env) (he : e 0 = .pointer (some ⟨b, 0, none⟩)) :
    W Tryd.prog Tryd.f69.ntmps (sndC (bodyOf Tryd.f69)) (bodyE Tryd.prog Tryd.f69 (FillSome b g s u rest lb lr str w)) e w := by
  have hq : q = u.length := by have := h.buf.eq; omega
  have hrl := h.rlen
  have hi : i < str.size := by
    have : 0 < rest.length := List.length_pos_iff.2 hr
    omega
  have hlen := h.buf.len
  rw [← upd_self he]
  conv => arg 3; whnf
  refine W_seq ?_
  refine W_seq ?_
  refine W_q mixed (by kernel_rfl) ?_
  refine K (x_move (by conv => lhs; whnf)) rfl ?_
  refine K (x_nilc rfl) rfl ?_
  refine K (x_field0 fa121_3 rfl) rfl ?_
  refine K (x_load ld3 rfl ((h.B.drew).cell 3 rfl)) rfl ?_
  refine K (x_move (by conv => lhs; whnf)) rfl ?_
  refine K (x_nilc rfl) rfl ?_
  refine K (x_field0 fa121_0 rfl) rfl ?_
  refine K (x_load ld62 rfl ((h.B.drew).cell 0 rfl)) rfl ?_
  refine K (x_len_slice Tryd.underlying62 rfl) rfl ?_
  refine K (x_bin rfl rfl (bf (decide_eq_false (by omega)))) rfl ?_
  refine KN ?_
  refine W_false (rfl) ?_
  refine W_skip ?_
  refine W_seq ?_
  refine W_seq ?_
  refine W_region ?_
  refine V (x_assign (by conv => lhs; whnf)) rfl ?_
  refine WL_nil ?_
  refine W_block ?_
  refine W_once ?_
  refine W_seq ?_
  refine W_seq ?_
  refine W_region ?_
  refine V (x_move (by conv => lhs; whnf)) rfl ?_
  refine V (x_bin rfl rfl (bt (decide_eq_true (by omega)))) rfl ?_
  refine WL_nil ?_
  refine W_true (rfl) ?_
  refine W_skip ?_
  refine W_seq ?_
  refine W_block ?_
  refine W_seq ?_
  refine W_draw mixed ?_
  refine D_pure (i := 0) (listed' := #[true, false, false, false, false, false, false, false, false, false, false, false, false, false, false, false, false, false, false, false, false]) (by kernel_rfl) (by kernel_rfl) (by kernel_rfl) rfl (by kernel_rfl) (fun _ => x_move (by conv => lhs; whnf)) rfl ?_
  refine D_pure (i := 1) (listed' := #[true, true, false, false, false, false, false, false, false, false, false, false, false, false, false, false, false, false, false, false, false]) (by kernel_rfl) (by kernel_rfl) (by kernel_rfl) rfl (by kernel_rfl) (fun _ => x_nilc rfl) rfl ?_
  refine D_pure (i := 2) (listed' := #[true, true, true, false, false, false, false, false, false, false, false, false, false, false, false, false, false, false, false, false, false]) (by kernel_rfl) (by kernel_rfl) (by kernel_rfl) rfl (by kernel_rfl) (fun _ => x_field0 fa121_1 rfl) rfl ?_
  refine D_pure (i := 4) (listed' := #[true, true, true, false, true, false, false, false, false, false, false, false, false, false, false, false, false, false, false, false, false]) (by kernel_rfl) (by kernel_rfl) (by kernel_rfl) rfl (by kernel_rfl) (fun _ => x_move (by conv => lhs; whnf)) rfl ?_
  refine D_pure (i := 5) (listed' := #[true, true, true, false, true, true, false, false, false, false, false, false, false, false, false, false, false, false, false, false, false]) (by kernel_rfl) (by kernel_rfl) (by kernel_rfl) rfl (by kernel_rfl) (fun _ => x_nilc rfl) rfl ?_
  refine D_pure (i := 6) (listed' := #[true, true, true, false, true, true, true, false, false, false, false, false, false, false, false, false, false, false, false, false, false]) (by kernel_rfl) (by kernel_rfl) (by kernel_rfl) rfl (by kernel_rfl) (fun _ => x_field0 fa121_0 rfl) rfl ?_
  refine D_pure (i := 8) (listed' := #[true, true, true, false, true, true, true, false, true, false, false, false, false, false, false, false, false, false, false, false, false]) (by kernel_rfl) (by kernel_rfl) (by kernel_rfl) rfl (by kernel_rfl) (fun _ => x_move (by conv => lhs; whnf)) rfl ?_
  refine D_pure (i := 9) (listed' := #[true, true, true, false, true, true, true, false, true, true, false, false, false, false, false, false, false, false, false, false, false]) (by kernel_rfl) (by kernel_rfl) (by kernel_rfl) rfl (by kernel_rfl) (fun _ => x_nilc rfl) rfl ?_
  refine D_pure (i := 10) (listed' := #[true, true, true, false, true, true, true, false, true, true, true, false, false, false, false, false, false, false, false, false, false]) (by kernel_rfl) (by kernel_rfl) (by kernel_rfl) rfl (by kernel_rfl) (fun _ => x_field0 fa121_3 rfl) rfl ?_
  refine D_still (i := 3) (listed' := #[true, true, true, true, true, true, true, false, true, true, true, false, false, false, false, false, false, false, false, false, false]) (by kernel_rfl) (by kernel_rfl) (by kernel_rfl) rfl (by kernel_rfl) (fun _ hgw => x_load ld75 rfl (hgw.cell ((h.B.drew.drew).cell 1 rfl))) rfl ?_
  refine D_pure (i := 13) (listed' := #[true, true, true, true, true, true, true, false, true, true, true, false, false, true, false, false, false, false, false, false, false]) (by kernel_rfl) (by kernel_rfl) (by kernel_rfl) rfl (by kernel_rfl) (fun _ => x_nilc_iface rfl) rfl ?_
  refine D_pure (i := 14) (listed' := #[true, true, true, true, true, true, true, false, true, true, true, false, false, true, true, false, false, false, false, false, false]) (by kernel_rfl) (by kernel_rfl) (by kernel_rfl) rfl (by kernel_rfl) (fun _ => x_move (by conv => lhs; whnf)) rfl ?_
  refine D_still (i := 7) (listed' := #[true, true, true, true, true, true, true, true, true, true, true, false, false, true, true, false, false, false, false, false, false]) (by kernel_rfl) (by kernel_rfl) (by kernel_rfl) rfl (by kernel_rfl) (fun _ hgw => x_load ld62 rfl (hgw.cell ((h.B.drew.drew).cell 0 rfl))) rfl ?_
  refine D_one (i := 11) (listed' := #[true, true, true, true, true, true, true, true, true, true, true, true, false, true, true, false, false, false, false, false, false]) (by kernel_rfl) rfl (by kernel_rfl) (x_load ld3 rfl ((h.B.drew.drew).cell 3 rfl)) rfl ?_
  refine D_pure (i := 12) (listed' := #[true, true, true, true, true, true, true, true, true, true, true, true, true, true, true, false, false, false, false, false, false]) (by kernel_rfl) (by kernel_rfl) (by kernel_rfl) rfl (by kernel_rfl) (fun _ => x_slice_l0 Tryd.underlying62 sz5 rfl rfl rfl (by omega) (by omega)) rfl ?_
  refine D_oneC (i := 15) (listed' := #[true, true, true, true, true, true, true, true, true, true, true, true, true, true, true, true, false, false, false, false, false]) (by kernel_rfl) rfl (by kernel_rfl) (x_invoke1 (by conv => lhs; whnf) (by conv => lhs; whnf) (callRead _ _)) rfl ?_
  refine (Read_some s i g q _ _ str prev cs er (dr (dr w)) h.S h.G hG0 hi (by have := h.small; omega) hs0 hg0 (by omega)).mono ?_
  rintro v w9 ⟨rfl, hS9, hG9, hO9⟩
  have hB9 : BBlk w9 b g s 0 q .nilIface lb lr := h.B.drew.drew.only hO9 (fun hk => hk.elim h.bs h.bg)
  refine D_pure (i := 16) (listed' := #[true, true, true, true, true, true, true, true, true, true, true, true, true, true, true, true, true, false, false, false, false]) (by kernel_rfl) (by kernel_rfl) (by kernel_rfl) rfl (by kernel_rfl) (fun _ => x_move (by conv => lhs; whnf)) rfl ?_
  refine D_pure (i := 17) (listed' := #[true, true, true, true, true, true, true, true, true, true, true, true, true, true, true, true, true, true, false, false, false]) (by kernel_rfl) (by kernel_rfl) (by kernel_rfl) rfl (by kernel_rfl) (fun _ => x_extract rfl rfl) rfl ?_
  refine D_pure (i := 18) (listed' := #[true, true, true, true, true, true, true, true, true, true, true, true, true, true, true, true, true, true, true, false, false]) (by kernel_rfl) (by kernel_rfl) (by kernel_rfl) rfl (by kernel_rfl) (fun _ => x_extract rfl rfl) rfl ?_
  refine D_pure (i := 19) (listed' := #[true, true, true, true, true, true, true, true, true, true, true, true, true, true, true, true, true, true, true, true, false]) (by kernel_rfl) (by kernel_rfl) (by kernel_rfl) rfl (by kernel_rfl) (fun _ => x_assign (by conv => lhs; whnf)) rfl ?_
  refine D_pure (i := 20) (listed' := #[true, true, true, true, true, true, true, true, true, true, true, true, true, true, true, true, true, true, true, true, true]) (by kernel_rfl) (by kernel_rfl) (by kernel_rfl) rfl (by kernel_rfl) (fun _ => x_assign (by conv => lhs; whnf)) rfl ?_
  refine WA_done (by kernel_rfl) ?_
  refine W_seq ?_
  refine W_seq ?_
  refine W_region ?_
  refine V (x_move (by conv => lhs; whnf)) rfl ?_
  refine V (x_bin rfl rfl (bf (decide_eq_false (by omega)))) rfl ?_
  refine WL_nil ?_
  refine W_false (rfl) ?_
  refine W_skip ?_
  refine W_seq ?_
  refine W_region ?_
  refine V (x_move (by conv => lhs; whnf)) rfl ?_
  refine V (x_nilc rfl) rfl ?_
  refine V (x_field0 fa121_3 rfl) rfl ?_
  refine V (x_load ld3 rfl ((hB9).cell 3 rfl)) rfl ?_
  refine V (x_move (by conv => lhs; whnf)) rfl ?_
  refine V (x_bin rfl rfl (ib_addn (m := q + min (str.size - i) (4096 - q)) (by omega) (by omega))) rfl ?_
  refine V (x_nilc rfl) rfl ?_
  refine V (x_field0 fa121_3 rfl) rfl ?_
  refine S (x_store st3 rfl (by conv => lhs; whnf) rfl ((hB9).cell 3 rfl) ((hB9).free 3)) ?_
  refine WL_nil ?_
  refine W_seq ?_
  refine W_seq ?_
  refine W_region ?_
  refine V (x_move (by conv => lhs; whnf)) rfl ?_
  refine V (x_neq_nil_nil Tryd.underlying55 rfl) rfl ?_
  refine WL_nil ?_
  refine W_false (rfl) ?_
  refine W_skip ?_
  refine W_seq ?_
  refine W_region ?_
  refine V (x_move (by conv => lhs; whnf)) rfl ?_
  refine V (x_bin rfl rfl (bt (decide_eq_true (by omega)))) rfl ?_
  refine WL_nil ?_
  refine W_true (rfl) ?_
  refine W_ret ?_
  repeat (with_reducible (first | refine rt ?_ | refine rb ?_))
  refine bodyE_0r rfl ⟨rfl, ⟨min (str.size - i) (4096 - q), by omega, by omega, _, _, _, _, _, ⟨hB9.set 3 _, hG9.far (Ne.symm h.bg) _, hS9.far (Ne.symm h.bs) _, ?_, ?_, ?_, h.small⟩⟩, ?_⟩
  · have hx := h.buf.grow ((str.data.toList.drop i).take (min (str.size - i) (4096 - q))) (by simp; omega)
    have hln : (rest.take (min (str.size - i) (4096 - q))).length = min (str.size - i) (4096 - q) := by rw [List.length_take]; omega
    rw [h.rest] at hx ⊢
    rw [hln] at hx
    exact hx
  · rw [← h.rest, List.drop_drop]
  · omega
  · exact (((Only.drew _ _).trans (Only.drew _ _)).trans (hO9.mono fun _ _ hk => hk.elim (fun h => .inr (.inr h)) (fun h => .inr (.inl h)))).trans (Only.setCell _ _ (.inl rfl) _)

/-- The slide, and what follows it. -/
theorem fill_any (R : World → Value → World → Prop) (b g s : Nat) (hR : ∀ w w1 v w2, Only (Three b g s) w w1 → R w1 v w2 → R w v w2) (u rest : Bytes) (cs : List Value) (r q : Nat) (lb lr : Int) (str : ByteArray) (i : Nat) (prev : Int) (er : Nat → Addr) (w : World)
    (h : BS w b g s .nilIface u rest cs r q lb lr str i prev) (hG0 : w.cell? ⟨0, 0, none⟩ = some (errV er 0)) (hg0 : 0 < g) (_ : 0 < b)
    (hT : ∀ (cs : List Value) (q : Nat) (w : World), BS w b g s .nilIface u rest cs 0 q lb lr str i prev → w.cell? ⟨0, 0, none⟩ = some (errV er 0) → ∀ e : Env, e 0 = .pointer (some ⟨b, 0, none⟩) → W Tryd.prog Tryd.f69.ntmps (sndC (bodyOf Tryd.f69)) (bodyE Tryd.prog Tryd.f69 (R w)) e w) :
    Ret Tryd.prog 69 #[.pointer (some ⟨b, 0, none⟩)] w (R w) := by
  have hle := h.buf.le
  have heq := h.buf.eq
  refine ret_of_W Tryd.func69 rfl (Nat.le_of_ble_eq_true rfl) ?_
  by_cases hr0 : r = 0
  · subst hr0
    refine W_seq ?_
    refine W_seq ?_
    refine W_region ?_
    refine V (x_move (by conv => lhs; whnf)) rfl ?_
    refine V (x_nilc rfl) rfl ?_
    refine V (x_field0 fa121_2 rfl) rfl ?_
    refine V (x_load ld3 rfl ((h.B).cell 2 rfl)) rfl ?_
    refine V (x_bin rfl rfl (bf (decide_eq_false (by omega)))) rfl ?_
    refine WL_nil ?_
    refine W_false (rfl) ?_
    refine W_skip ?_
    refine hT _ _ _ h hG0 _ ?_
    rfl
  · have hsl : ((cs.drop r).take (q - r)).length = q - r := by have := h.buf.len; simp; omega
    have hslide := h.buf.slide
    refine W_seq ?_
    refine W_seq ?_
    refine W_region ?_
    refine V (x_move (by conv => lhs; whnf)) rfl ?_
    refine V (x_nilc rfl) rfl ?_
    refine V (x_field0 fa121_2 rfl) rfl ?_
    refine V (x_load ld3 rfl ((h.B).cell 2 rfl)) rfl ?_
    refine V (x_bin rfl rfl (bt (decide_eq_true (by omega)))) rfl ?_
    refine WL_nil ?_
    refine W_true (rfl) ?_
    refine W_seq ?_
    refine W_draw mixed ?_
    refine D_pure (i := 0) (listed' := #[true, false, false, false, false, false, false, false, false, false, false, false, false, false, false, false, false, false]) (by kernel_rfl) (by kernel_rfl) (by kernel_rfl) rfl (by kernel_rfl) (fun _ => x_move (by conv => lhs; whnf)) rfl ?_
    refine D_pure (i := 1) (listed' := #[true, true, false, false, false, false, false, false, false, false, false, false, false, false, false, false, false, false]) (by kernel_rfl) (by kernel_rfl) (by kernel_rfl) rfl (by kernel_rfl) (fun _ => x_nilc rfl) rfl ?_
    refine D_pure (i := 2) (listed' := #[true, true, true, false, false, false, false, false, false, false, false, false, false, false, false, false, false, false]) (by kernel_rfl) (by kernel_rfl) (by kernel_rfl) rfl (by kernel_rfl) (fun _ => x_field0 fa121_0 rfl) rfl ?_
    refine D_pure (i := 4) (listed' := #[true, true, true, false, true, false, false, false, false, false, false, false, false, false, false, false, false, false]) (by kernel_rfl) (by kernel_rfl) (by kernel_rfl) rfl (by kernel_rfl) (fun _ => x_move (by conv => lhs; whnf)) rfl ?_
    refine D_pure (i := 5) (listed' := #[true, true, true, false, true, true, false, false, false, false, false, false, false, false, false, false, false, false]) (by kernel_rfl) (by kernel_rfl) (by kernel_rfl) rfl (by kernel_rfl) (fun _ => x_nilc rfl) rfl ?_
    refine D_pure (i := 6) (listed' := #[true, true, true, false, true, true, true, false, false, false, false, false, false, false, false, false, false, false]) (by kernel_rfl) (by kernel_rfl) (by kernel_rfl) rfl (by kernel_rfl) (fun _ => x_field0 fa121_0 rfl) rfl ?_
    refine D_pure (i := 8) (listed' := #[true, true, true, false, true, true, true, false, true, false, false, false, false, false, false, false, false, false]) (by kernel_rfl) (by kernel_rfl) (by kernel_rfl) rfl (by kernel_rfl) (fun _ => x_move (by conv => lhs; whnf)) rfl ?_
    refine D_pure (i := 9) (listed' := #[true, true, true, false, true, true, true, false, true, true, false, false, false, false, false, false, false, false]) (by kernel_rfl) (by kernel_rfl) (by kernel_rfl) rfl (by kernel_rfl) (fun _ => x_nilc rfl) rfl ?_
    refine D_pure (i := 10) (listed' := #[true, true, true, false, true, true, true, false, true, true, true, false, false, false, false, false, false, false]) (by kernel_rfl) (by kernel_rfl) (by kernel_rfl) rfl (by kernel_rfl) (fun _ => x_field0 fa121_2 rfl) rfl ?_
    refine D_pure (i := 12) (listed' := #[true, true, true, false, true, true, true, false, true, true, true, false, true, false, false, false, false, false]) (by kernel_rfl) (by kernel_rfl) (by kernel_rfl) rfl (by kernel_rfl) (fun _ => x_move (by conv => lhs; whnf)) rfl ?_
    refine D_pure (i := 13) (listed' := #[true, true, true, false, true, true, true, false, true, true, true, false, true, true, false, false, false, false]) (by kernel_rfl) (by kernel_rfl) (by kernel_rfl) rfl (by kernel_rfl) (fun _ => x_nilc rfl) rfl ?_
    refine D_pure (i := 14) (listed' := #[true, true, true, false, true, true, true, false, true, true, true, false, true, true, true, false, false, false]) (by kernel_rfl) (by kernel_rfl) (by kernel_rfl) rfl (by kernel_rfl) (fun _ => x_field0 fa121_3 rfl) rfl ?_
    refine D_still (i := 3) (listed' := #[true, true, true, true, true, true, true, false, true, true, true, false, true, true, true, false, false, false]) (by kernel_rfl) (by kernel_rfl) (by kernel_rfl) rfl (by kernel_rfl) (fun _ hgw => x_load ld62 rfl (hgw.cell ((h.B.drew).cell 0 rfl))) rfl ?_
    refine D_still (i := 7) (listed' := #[true, true, true, true, true, true, true, true, true, true, true, false, true, true, true, false, false, false]) (by kernel_rfl) (by kernel_rfl) (by kernel_rfl) rfl (by kernel_rfl) (fun _ hgw => x_load ld62 rfl (hgw.cell ((h.B.drew).cell 0 rfl))) rfl ?_
    refine D_still (i := 11) (listed' := #[true, true, true, true, true, true, true, true, true, true, true, true, true, true, true, false, false, false]) (by kernel_rfl) (by kernel_rfl) (by kernel_rfl) rfl (by kernel_rfl) (fun _ hgw => x_load ld3 rfl (hgw.cell ((h.B.drew).cell 2 rfl))) rfl ?_
    refine D_one (i := 15) (listed' := #[true, true, true, true, true, true, true, true, true, true, true, true, true, true, true, true, false, false]) (by kernel_rfl) rfl (by kernel_rfl) (x_load ld3 rfl ((h.B.drew).cell 3 rfl)) rfl ?_
    refine D_pure (i := 16) (listed' := #[true, true, true, true, true, true, true, true, true, true, true, true, true, true, true, true, true, false]) (by kernel_rfl) (by kernel_rfl) (by kernel_rfl) rfl (by kernel_rfl) (fun _ => x_slice_lh Tryd.underlying62 sz5 rfl rfl rfl rfl rfl (by omega) (by omega)) rfl ?_
    refine D_oneE (i := 17) (listed' := #[true, true, true, true, true, true, true, true, true, true, true, true, true, true, true, true, true, true]) (by kernel_rfl) rfl (by kernel_rfl) (x_copy_slice Tryd.underlying62 sz5 rfl rfl h.G.drew (by rw [h.buf.len]; decide) hsl (h.src) (fun v hv => h.buf.one v (List.mem_of_mem_drop (List.mem_of_mem_take hv)))) rfl ?_
    rintro _ w1 ⟨rfl, hG1, hO1⟩
    have hB1 : BBlk w1 b g s r q .nilIface lb lr := h.B.drew.only hO1 h.bg
    have hS1 : SBlk w1 s str i prev := h.S.drew.only hO1 h.sg
    refine WA_done (by kernel_rfl) ?_
    refine W_seq ?_
    refine W_draw mixed ?_
    refine D_pure (i := 0) (listed' := #[true, false, false, false, false, false, false, false, false, false, false, false]) (by kernel_rfl) (by kernel_rfl) (by kernel_rfl) rfl (by kernel_rfl) (fun _ => x_move (by conv => lhs; whnf)) rfl ?_
    refine D_pure (i := 1) (listed' := #[true, true, false, false, false, false, false, false, false, false, false, false]) (by kernel_rfl) (by kernel_rfl) (by kernel_rfl) rfl (by kernel_rfl) (fun _ => x_nilc rfl) rfl ?_
    refine D_pure (i := 2) (listed' := #[true, true, true, false, false, false, false, false, false, false, false, false]) (by kernel_rfl) (by kernel_rfl) (by kernel_rfl) rfl (by kernel_rfl) (fun _ => x_field0 fa121_3 rfl) rfl ?_
    refine D_pure (i := 4) (listed' := #[true, true, true, false, true, false, false, false, false, false, false, false]) (by kernel_rfl) (by kernel_rfl) (by kernel_rfl) rfl (by kernel_rfl) (fun _ => x_move (by conv => lhs; whnf)) rfl ?_
    refine D_pure (i := 5) (listed' := #[true, true, true, false, true, true, false, false, false, false, false, false]) (by kernel_rfl) (by kernel_rfl) (by kernel_rfl) rfl (by kernel_rfl) (fun _ => x_nilc rfl) rfl ?_
    refine D_pure (i := 6) (listed' := #[true, true, true, false, true, true, true, false, false, false, false, false]) (by kernel_rfl) (by kernel_rfl) (by kernel_rfl) rfl (by kernel_rfl) (fun _ => x_field0 fa121_2 rfl) rfl ?_
    refine D_still (i := 3) (listed' := #[true, true, true, true, true, true, true, false, false, false, false, false]) (by kernel_rfl) (by kernel_rfl) (by kernel_rfl) rfl (by kernel_rfl) (fun _ hgw => x_load ld3 rfl (hgw.cell ((hB1.drew).cell 3 rfl))) rfl ?_
    refine D_one (i := 7) (listed' := #[true, true, true, true, true, true, true, true, false, false, false, false]) (by kernel_rfl) rfl (by kernel_rfl) (x_load ld3 rfl ((hB1.drew).cell 2 rfl)) rfl ?_
    refine D_pure (i := 8) (listed' := #[true, true, true, true, true, true, true, true, true, false, false, false]) (by kernel_rfl) (by kernel_rfl) (by kernel_rfl) rfl (by kernel_rfl) (fun _ => x_bin rfl rfl (ib_subn (m := q - r) (by omega) (by omega))) rfl ?_
    refine D_pure (i := 9) (listed' := #[true, true, true, true, true, true, true, true, true, true, false, false]) (by kernel_rfl) (by kernel_rfl) (by kernel_rfl) rfl (by kernel_rfl) (fun _ => x_nilc rfl) rfl ?_
    refine D_pure (i := 10) (listed' := #[true, true, true, true, true, true, true, true, true, true, true, false]) (by kernel_rfl) (by kernel_rfl) (by kernel_rfl) rfl (by kernel_rfl) (fun _ => x_field0 fa121_3 rfl) rfl ?_
    refine D_oneS (i := 11) (listed' := #[true, true, true, true, true, true, true, true, true, true, true, true]) (by kernel_rfl) rfl (by kernel_rfl) (x_store st3 rfl (by conv => lhs; whnf) rfl ((hB1.drew).cell 3 rfl) ((hB1.drew).free 3)) ?_
    refine WA_done (by kernel_rfl) ?_
    have hB2 := hB1.drew.set 3 (.int .i64 ((q - r : Nat) : Int))
    refine W_region ?_
    refine V (x_move (by conv => lhs; whnf)) rfl ?_
    refine V (x_nilc rfl) rfl ?_
    refine V (x_field0 fa121_2 rfl) rfl ?_
    refine S (x_store st3 rfl (by conv => lhs; whnf) rfl ((hB2).cell 2 rfl) ((hB2).free 2)) ?_
    refine WL_nil ?_
    have hB3 := hB2.set 2 (.int .i64 0)
    have hmin : min (q - r) 4096 = q - r := by omega
    rw [hmin, List.take_take, Nat.min_self] at hG1
    have hO : Only (Three b g s) w (World.setCell (World.setCell (dr w1) ⟨b, 3, none⟩ (.int .i64 ((q - r : Nat) : Int))) ⟨b, 2, none⟩ (.int .i64 0)) :=
      (((Only.drew _ _).trans (hO1.mono fun _ _ hk => .inr (.inl hk))).trans (Only.drew _ _)).trans ((Only.setCell _ _ (.inl rfl) _).trans (Only.setCell _ _ (.inl rfl) _))
    refine (hT _ _ _ ⟨hB3, (hG1.drew.far (Ne.symm h.bg) _).far (Ne.symm h.bg) _, (hS1.drew.far (Ne.symm h.bs) _).far (Ne.symm h.bs) _, hslide, h.rest, h.le, h.small⟩ ?hg _ ?he).mono fun x e w2 hx => bodyE_mono (fun v w3 hv => hR _ _ _ _ hO hv) x e w2 hx
    case he => rfl
    rw [World.cell?_setCell_other _ _ _ _ (by intro h; simp at h), World.cell?_setCell_other _ _ _ _ (by intro h; simp at h)]
    exact (World.cell?_of_block (hO1.block 0 (cell_lt hG0) (by show ¬ (0 = g); omega))).trans hG0
theorem fill_eof (b g s : Nat) (u : Bytes) (cs : List Value) (r q : Nat) (lb lr : Int) (str : ByteArray) (i : Nat) (prev : Int) (er : Nat → Addr) (w : World)
    (h : BS w b g s .nilIface u [] cs r q lb lr str i prev) (hG0 : w.cell? ⟨0, 0, none⟩ = some (errV er 0)) (hu : u.length < 4096) (hg0 : 0 < g) (hb0 : 0 < b) :
    Ret Tryd.prog 69 #[.pointer (some ⟨b, 0, none⟩)] w (FillEof b g s u lb lr str i prev er w) :=
  fill_any (FillEof b g s u lb lr str i prev er) b g s (fun _ _ _ _ hO ⟨h1, h2, h3⟩ => ⟨h1, h2, hO.trans h3⟩) u [] cs r q lb lr str i prev er w h hG0 hg0 hb0 fun _ _ _ h hG e he => fillT_eof b g s u _ _ lb lr str i prev er _ h hG hu e he
theorem fill_some (b g s : Nat) (u rest : Bytes) (cs : List Value) (r q : Nat) (lb lr : Int) (str : ByteArray) (i : Nat) (prev : Int) (er : Nat → Addr) (w : World)
    (h : BS w b g s .nilIface u rest cs r q lb lr str i prev) (hG0 : w.cell? ⟨0, 0, none⟩ = some (errV er 0)) (hu : u.length < 4096) (hr : rest ≠ []) (hs0 : 0 < s) (hg0 : 0 < g) (hb0 : 0 < b) :
    Ret Tryd.prog 69 #[.pointer (some ⟨b, 0, none⟩)] w (FillSome b g s u rest lb lr str w) :=
  fill_any (FillSome b g s u rest lb lr str) b g s (fun _ _ _ _ hO ⟨h1, h2, h3⟩ => ⟨h1, h2, hO.trans h3⟩) u rest cs r q lb lr str i prev er w h hG0 hg0 hb0 fun _ _ _ h hG e he => fillT_some b g s u rest _ _ lb lr str i prev er _ h hG hu hr hs0 hg0 e he
end Go.Proofs.YtcdhbfhijkdfoaaDoor
