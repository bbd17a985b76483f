/-
  bytes.IndexFunc with the closure of readRecord: where white space ends.
-/
import Derived.Test.YtcdhbfhijkdfoaaDoorVd
import Derived.Test.YtcdhbfhijkdfoaaDoorEs
import Derived.Lib.TrimUEq
import Derived.Lib.FieldsU
import Derived.Lib.RuneCount
namespace Go.EC
theorem x_callv1 {P : Program} {e : Env} {w : World} {d : Option Nat} {ty : TypeId} {pos : String} {af : Array Edge} {g : Option (Nat × Bool)} {f : FuncId} {a0 : Operand} {t : Nat} {v0 : Value} {ts : Array TypeId} (hf : ∀ (xs : Array Value) (w : World), (callFunc f xs).run P w = .ok (.enter f xs) w)
    (ht : ev e (.tmp t) = .func (.func f) #[] #[]) (h0 : ev e a0 = v0) :
    (execOp (ev e) ⟨d, .call { callee := .value (.tmp t), args := #[a0], argTypes := ts }, ty, pos, af, g⟩).run P w = .ok (.enter f #[v0]) w := by
  subst h0
  simp [execOp, resolve, Deferred.ofValue, ht, invoke, hf]
theorem x_eql_bool {P : Program} {e : Env} {w : World} {d : Option Nat} {ty : TypeId} {pos : String} {af : Array Edge} {g : Option (Nat × Bool)} {t t' : TypeId} {x y : Operand} {a b : Bool} (hu : P.underlying t = some .bool) (hx : ev e x = .bool a) (hy : ev e y = .bool b) :
    (execOp (ev e) ⟨d, .binOp .eql t x y t', ty, pos, af, g⟩).run P w = .ok (.value (.bool (a == b))) w := by
  have hgd : (eqGuard .eql t x y (.bool a) (.bool b)).run P w = .ok () w := by
    unfold eqGuard; split <;> rfl
  have h : ∀ d : Nat, (Op.equalIn (d + 1) t (.bool a) (.bool b)).run P w = .ok (a == b) w := fun d => by simp [Op.equalIn, run_underlying hu]
  simp only [execOp, hx, hy, Sem.run_bind, hgd, Result.andThen_ok, binOp]
  simp [Op.equal, Op.maxDepth, h 9999]
end Go.EC
namespace Go.Proofs.YtcdhbfhijkdfoaaDoor
open Go.EC Go.RowKit

theorem decB_L {L : Bytes} (h : L ≠ []) : decB L = Lib.decodeL L := by
  unfold decB Lib.decodeGo Lib.decodeL
  rw [if_neg]
  simpa [ByteArray.size] using h
theorem decB_N {L : Bytes} (h : L ≠ []) : decB L = Lib.decodeN L.length (L.getD 0 0).toNat (L.getD 1 0).toNat (L.getD 2 0).toNat (L.getD 3 0).toNat := by
  rw [decB_L h, Lib.decodeL_N]
theorem decB_pos {L : Bytes} (h : L ≠ []) : 1 ≤ (decB L).2 := by rw [decB_L h]; exact Lib.decodeL_width L
theorem decB_le {L : Bytes} (h : L ≠ []) : (decB L).2 ≤ L.length := by
  rw [decB_N h]
  exact Lib.decodeN_le_n' _ _ _ _ _ (List.length_pos_iff.2 h)
theorem decB_rune (L : Bytes) : (decB L).1 ≤ 1114111 := by
  by_cases h : L = []
  · subst h; rw [decB_nil]; decide
  · rw [decB_N h]; exact Lib.decodeN_rune_le _ _ _ _ _ (UInt8.toNat_lt _)
/-- What is left of some bytes when white space at their head is struck. -/
def trimB (L : Bytes) : Bytes :=
  if _ : L = [] then [] else if Lib.isSpaceR (decB L).1 then trimB (L.drop (decB L).2) else L
  termination_by L.length
  decreasing_by
    have h : L ≠ [] := by assumption
    have h1 := decB_pos h
    have h2 := List.length_pos_iff.2 h
    simp; omega
theorem trimB_nil : trimB [] = [] := by rw [trimB]; simp
theorem trimB_sp {L : Bytes} (h : L ≠ []) (hs : Lib.isSpaceR (decB L).1 = true) : trimB L = trimB (L.drop (decB L).2) := by rw [trimB]; simp [h, hs]
theorem trimB_no {L : Bytes} (h : L ≠ []) (hs : Lib.isSpaceR (decB L).1 = false) : trimB L = L := by rw [trimB]; simp [h, hs]

theorem cf50 (xs : Array Value) (w : World) : (callFunc 50 xs).run Tryd.prog w = .ok (.enter 50 xs) w := by kernel_rfl
theorem notSpace_ok (r : Nat) (w : World) (hr : r ≤ 1114111) (hW : Lib.WhiteTab 6 w) : Ret Tryd.prog 50 #[.int .i32 (r : Int)] w fun v w' => v = .bool (!Lib.isSpaceR r) ∧ Below w.heap.size w w' := by
  refine ret_of_W Tryd.func50 rfl (Nat.le_of_ble_eq_true rfl) ?_
  have hc := ret_of_calls (Tryd.unicode_IsSpace_any (r : Int) w (by omega) (by omega) hW)
  rw [Lib.isSpaceZ_nat] at hc
  refine W_seq ?_
  refine W_region ?_
  refine V (x_assign (by conv => lhs; whnf)) rfl ?_
  refine WL_nil ?_
  refine W_seq ?_
  refine W_region ?_
  refine V (x_move (by conv => lhs; whnf)) rfl ?_
  refine C (x_call1 cf51 (by conv => lhs; whnf)) rfl ?_
  refine hc.mono fun v w1 h1 => ?_
  obtain ⟨rfl, hb⟩ := h1
  refine V (x_not rfl) rfl ?_
  refine V (x_assign (by conv => lhs; whnf)) rfl ?_
  refine WL_nil ?_
  refine W_ret ?_
  repeat (with_reducible (first | refine rt ?_ | refine rb ?_))
  exact bodyE_1 rfl rfl ⟨rfl, hb⟩

/-- The tables of the library that are read. -/
structure Tabs (w : World) : Prop where
  u8 : Lib.Utf8Tabs 10 11 w
  sp : Lib.WhiteTab 6 w
theorem Tabs.new {w w' : World} (h : Tabs w) (hb : Below w.heap.size w w') : Tabs w' := by
  refine ⟨⟨fun c hc => ?_, fun i hi => ?_⟩, WhiteTab_below h.sp hb⟩
  · have h1 := h.u8.1 c hc
    exact (World.cell?_of_block (hb.block 10 (cell_lt h1))).trans h1
  · obtain ⟨h1, h2⟩ := h.u8.2 i hi
    exact ⟨(World.cell?_of_block (hb.block 11 (cell_lt h1))).trans h1, (World.cell?_of_block (hb.block 11 (cell_lt h2))).trans h2⟩

theorem indexFunc_ok (A : Option Addr) (L : Bytes) (c : Nat) (w : World) (h : At w A L) (hc : L.length ≤ c) (hm : L.length ≤ 2147487744) (hT : Tabs w) :
    Ret Tryd.prog 60 #[.slice A L.length c, .func (.func 50) #[] #[], .bool true] w fun v w' => v = .int .i64 (if trimB L = [] then (-1 : Int) else ((L.length - (trimB L).length : Nat) : Int)) ∧ Below w.heap.size w w' := by
  refine ret_of_W Tryd.func60 rfl (Nat.le_of_ble_eq_true rfl) ?_
  refine W_seq ?_
  refine W_region ?_
  refine V (x_assign (by conv => lhs; whnf)) rfl ?_
  refine WL_nil ?_
  refine W_seq ?_
  refine W_region ?_
  refine V (x_assign (by conv => lhs; whnf)) rfl ?_
  refine WL_nil ?_
  refine W_cutQ (fun e w' => trimB L = [] ∧ Below w.heap.size w w') ?_ ?_
  · refine W_block ?_
    refine W_loop (fun K e w' => ∃ st : Nat, st ≤ L.length ∧ K = L.length - st ∧ trimB (L.drop st) = trimB L ∧ e 0 = .slice A L.length c ∧ e 1 = .func (.func 50) #[] #[] ∧ e 2 = .bool true ∧ e 7 = .int .i64 (st : Int) ∧ Below w.heap.size w w') (k0 := L.length) ⟨0, by omega, by omega, rfl, rfl, rfl, rfl, rfl, Below.refl _ _⟩ ?_
    rintro K e w1 ⟨st, hst, rfl, htr, e0, e1, e2, e7, hb⟩
    rw [← upd_self e0, ← upd_self (e := upd e 0 _) (d := 1) e1, ← upd_self (e := upd (upd e 0 _) 1 _) (d := 2) e2, ← upd_self (e := upd (upd (upd e 0 _) 1 _) 2 _) (d := 7) e7]
    by_cases hlt : st < L.length
    · have hne : L.drop st ≠ [] := by
        intro hh
        have := congrArg List.length hh
        simp at this; omega
      have hA1 : At w1 (if c = st then A else A.map (·.add st)) (L.drop st) := (h.only (Only.of_below hb (fun _ => False)) (fun _ _ _ => id)).drop st c hc
      have hT1 := hT.new hb
      have hD := DecodeRune_ok _ (L.drop st) (c - st) w1 hA1 hT1.u8
      rw [List.length_drop] at hD
      have hpos := decB_pos hne
      have hle := decB_le hne
      rw [List.length_drop] at hle
      have hsz1 := hb.size
      cases hs : Lib.isSpaceR (decB (L.drop st)).1
      · have htr' := trimB_no hne hs
        have hres : (if trimB L = [] then (-1 : Int) else ((L.length - (trimB L).length : Nat) : Int)) = (st : Int) := by
          rw [← htr, htr', if_neg hne, List.length_drop]
          omega
        rw [hres]
        refine W_seq ?_
        refine W_seq ?_
        refine W_region ?_
        refine V (x_move (by conv => lhs; whnf)) rfl ?_
        refine V (x_move (by conv => lhs; whnf)) rfl ?_
        refine V (x_len_slice Tryd.underlying62 rfl) rfl ?_
        refine V (x_bin rfl rfl (bt (decide_eq_true (by omega)))) rfl ?_
        refine WL_nil ?_
        refine W_true (rfl) ?_
        refine W_skip ?_
        refine W_block ?_
        refine W_seq ?_
        refine W_region ?_
        refine V (x_move (by conv => lhs; whnf)) rfl ?_
        refine V (x_move (by conv => lhs; whnf)) rfl ?_
        refine V (x_slice_l Tryd.underlying62 sz5 rfl rfl rfl (by omega)) rfl ?_
        refine C (x_call1 cf59 (by conv => lhs; whnf)) rfl ?_
        refine hD.mono fun v w2 h2 => ?_
        obtain ⟨rfl, hb2⟩ := h2
        have hT2 := hT1.new hb2
        have hN := notSpace_ok (decB (L.drop st)).1 w2 (decB_rune _) hT2.sp
        rw [hs] at hN
        refine V (x_move (by conv => lhs; whnf)) rfl ?_
        refine V (x_extract rfl rfl) rfl ?_
        refine V (x_extract rfl rfl) rfl ?_
        refine V (x_assign (by conv => lhs; whnf)) rfl ?_
        refine V (x_assign (by conv => lhs; whnf)) rfl ?_
        refine WL_nil ?_
        refine W_seq ?_
        refine W_seq ?_
        refine W_region ?_
        refine V (x_move (by conv => lhs; whnf)) rfl ?_
        refine V (x_move (by conv => lhs; whnf)) rfl ?_
        refine C (x_callv1 cf50 rfl rfl) rfl ?_
        refine hN.mono fun v w3 h3 => ?_
        obtain ⟨rfl, hb3⟩ := h3
        refine V (x_move (by conv => lhs; whnf)) rfl ?_
        refine V (x_eql_bool Tryd.underlying4 rfl rfl) rfl ?_
        refine WL_nil ?_
        refine W_true (rfl) ?_
        refine W_seq ?_
        refine W_region ?_
        refine V (x_move (by conv => lhs; whnf)) rfl ?_
        refine V (x_assign (by conv => lhs; whnf)) rfl ?_
        refine WL_nil ?_
        refine W_ret ?_
        repeat (with_reducible (first | refine rt ?_ | refine rb ?_))
        refine bodyE_1 rfl rfl ⟨rfl, (hb.trans (hb2.mono hsz1)).trans (hb3.mono (Nat.le_trans hsz1 hb2.size))⟩
      · have htr' := trimB_sp hne hs
        refine W_seq ?_
        refine W_seq ?_
        refine W_region ?_
        refine V (x_move (by conv => lhs; whnf)) rfl ?_
        refine V (x_move (by conv => lhs; whnf)) rfl ?_
        refine V (x_len_slice Tryd.underlying62 rfl) rfl ?_
        refine V (x_bin rfl rfl (bt (decide_eq_true (by omega)))) rfl ?_
        refine WL_nil ?_
        refine W_true (rfl) ?_
        refine W_skip ?_
        refine W_block ?_
        refine W_seq ?_
        refine W_region ?_
        refine V (x_move (by conv => lhs; whnf)) rfl ?_
        refine V (x_move (by conv => lhs; whnf)) rfl ?_
        refine V (x_slice_l Tryd.underlying62 sz5 rfl rfl rfl (by omega)) rfl ?_
        refine C (x_call1 cf59 (by conv => lhs; whnf)) rfl ?_
        refine hD.mono fun v w2 h2 => ?_
        obtain ⟨rfl, hb2⟩ := h2
        have hT2 := hT1.new hb2
        have hN := notSpace_ok (decB (L.drop st)).1 w2 (decB_rune _) hT2.sp
        rw [hs] at hN
        refine V (x_move (by conv => lhs; whnf)) rfl ?_
        refine V (x_extract rfl rfl) rfl ?_
        refine V (x_extract rfl rfl) rfl ?_
        refine V (x_assign (by conv => lhs; whnf)) rfl ?_
        refine V (x_assign (by conv => lhs; whnf)) rfl ?_
        refine WL_nil ?_
        refine W_seq ?_
        refine W_seq ?_
        refine W_region ?_
        refine V (x_move (by conv => lhs; whnf)) rfl ?_
        refine V (x_move (by conv => lhs; whnf)) rfl ?_
        refine C (x_callv1 cf50 rfl rfl) rfl ?_
        refine hN.mono fun v w3 h3 => ?_
        obtain ⟨rfl, hb3⟩ := h3
        refine V (x_move (by conv => lhs; whnf)) rfl ?_
        refine V (x_eql_bool Tryd.underlying4 rfl rfl) rfl ?_
        refine WL_nil ?_
        refine W_false (rfl) ?_
        refine W_skip ?_
        refine W_region ?_
        refine V (x_move (by conv => lhs; whnf)) rfl ?_
        refine V (x_move (by conv => lhs; whnf)) rfl ?_
        refine V (x_bin rfl rfl (ib_addn (m := st + (decB (L.drop st)).2) (by omega) (by omega))) rfl ?_
        refine V (x_assign (by conv => lhs; whnf)) rfl ?_
        refine WL_nil ?_
        repeat (first | with_reducible refine xt ?_ | with_reducible refine xb ?_ | with_reducible refine nt ?_ | with_reducible refine nb ?_ | with_reducible refine xn rfl ?_)
        refine ⟨_, ?_, st + (decB (L.drop st)).2, by omega, rfl, ?_, rfl, rfl, rfl, rfl, (hb.trans (hb2.mono hsz1)).trans (hb3.mono (Nat.le_trans hsz1 hb2.size))⟩
        · omega
        · rw [← htr, htr', List.drop_drop]
    · have hst' : st = L.length := by omega
      refine W_seq ?_
      refine W_seq ?_
      refine W_region ?_
      refine V (x_move (by conv => lhs; whnf)) rfl ?_
      refine V (x_move (by conv => lhs; whnf)) rfl ?_
      refine V (x_len_slice Tryd.underlying62 rfl) rfl ?_
      refine V (x_bin rfl rfl (bf (decide_eq_false (by omega)))) rfl ?_
      refine WL_nil ?_
      refine W_false (rfl) ?_
      refine W_exit ?_
      repeat (first | with_reducible refine xt ?_ | with_reducible refine xb ?_ | with_reducible refine nt ?_ | with_reducible refine nb ?_ | with_reducible refine xn rfl ?_)
      rw [hst', List.drop_length, trimB_nil] at htr
      exact ⟨htr.symm, hb⟩
  · rintro e w1 ⟨htr, hb⟩
    rw [if_pos htr]
    refine W_seq ?_
    refine W_region ?_
    refine V (x_assign (by conv => lhs; whnf)) rfl ?_
    refine WL_nil ?_
    refine W_ret ?_
    repeat (with_reducible (first | refine rt ?_ | refine rb ?_))
    exact bodyE_1 rfl rfl ⟨rfl, hb⟩
theorem IndexFunc_ok (A : Option Addr) (L : Bytes) (c : Nat) (w : World) (h : At w A L) (hc : L.length ≤ c) (hm : L.length ≤ 2147487744) (hT : Tabs w) :
    Ret Tryd.prog 49 #[.slice A L.length c, .func (.func 50) #[] #[]] w fun v w' => v = .int .i64 (if trimB L = [] then (-1 : Int) else ((L.length - (trimB L).length : Nat) : Int)) ∧ Below w.heap.size w w' := by
  refine ret_of_W Tryd.func49 rfl (Nat.le_of_ble_eq_true rfl) ?_
  refine W_seq ?_
  refine W_region ?_
  refine V (x_assign (by conv => lhs; whnf)) rfl ?_
  refine WL_nil ?_
  refine W_seq ?_
  refine W_region ?_
  refine V (x_move (by conv => lhs; whnf)) rfl ?_
  refine V (x_move (by conv => lhs; whnf)) rfl ?_
  refine C (x_call3 cf60 (by conv => lhs; whnf) (by conv => lhs; whnf) (by conv => lhs; whnf)) rfl ?_
  refine (indexFunc_ok A L c _ h hc hm hT).mono fun v w1 h1 => ?_
  obtain ⟨rfl, hb⟩ := h1
  refine V (x_assign (by conv => lhs; whnf)) rfl ?_
  refine WL_nil ?_
  refine W_ret ?_
  repeat (with_reducible (first | refine rt ?_ | refine rb ?_))
  exact bodyE_1 rfl rfl ⟨rfl, hb⟩
/-- What is struck lies ahead of what is left. -/
theorem trimB_suffix (L : Bytes) : ∃ k, k ≤ L.length ∧ trimB L = L.drop k := by
  by_cases h : L = []
  · exact ⟨0, Nat.zero_le _, by rw [h, trimB_nil]; rfl⟩
  · cases hs : Lib.isSpaceR (decB L).1
    · exact ⟨0, Nat.zero_le _, by rw [trimB_no h hs]; rfl⟩
    · have h1 := decB_pos h
      have h3 := decB_le h
      have h2 := List.length_pos_iff.2 h
      obtain ⟨k, hk, he⟩ := trimB_suffix (L.drop (decB L).2)
      refine ⟨(decB L).2 + k, ?_, by rw [trimB_sp h hs, he, List.drop_drop]⟩
      simp at hk; omega
  termination_by L.length
  decreasing_by simp; omega
end Go.Proofs.YtcdhbfhijkdfoaaDoor
