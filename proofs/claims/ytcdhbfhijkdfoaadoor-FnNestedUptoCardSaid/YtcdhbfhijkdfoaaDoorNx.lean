/-
  lengthNL, DecodeRune, nextRune.
-/
import Derived.Test.YtcdhbfhijkdfoaaDoorRn
import Derived.Test.YtcdhbfhijkdfoaaDoorSh
namespace Go.Proofs.YtcdhbfhijkdfoaaDoor
open Go.EC Go.RowKit

/-- 1 if there is a newline at the end. -/
def nlLen (L : Bytes) : Nat := if L.getLast? = some 10 then 1 else 0
theorem nlLen_last {L : Bytes} (h : 0 < L.length) : nlLen L = if L[L.length - 1]'(by omega) = 10 then 1 else 0 := by
  unfold nlLen
  rw [List.getLast?_eq_getElem?, List.getElem?_eq_getElem (by omega)]
  simp
theorem lengthNL_ok (A : Option Addr) (L : Bytes) (c : Nat) (w : World) (h : At w A L) (hc : L.length ≤ c) (hm : L.length ≤ 2147487744) :
    Ret Tryd.prog 47 #[.slice A L.length c] w fun v w' => v = .int .i64 (nlLen L) ∧ w = w' := by
  refine ret_of_W Tryd.func47 rfl (Nat.le_of_ble_eq_true rfl) ?_
  by_cases hn : L.length = 0
  · have hL : L = [] := List.eq_nil_of_length_eq_zero hn
    subst hL
    refine W_seq ?_
    refine W_region ?_
    refine V (x_assign (by conv => lhs; whnf)) rfl ?_
    refine WL_nil ?_
    refine W_seq ?_
    refine W_seq ?_
    refine W_region ?_
    refine V (x_move (by conv => lhs; whnf)) rfl ?_
    refine V (x_len_slice Tryd.underlying62 rfl) rfl ?_
    refine V (x_bin rfl rfl (bf rfl)) rfl ?_
    refine V (x_move (by conv => lhs; whnf)) rfl ?_
    refine SG rfl (by decide) rfl ?_
    refine SG rfl (by decide) rfl ?_
    refine SG rfl (by decide) rfl ?_
    refine SG rfl (by decide) rfl ?_
    refine SG rfl (by decide) rfl ?_
    refine SG rfl (by decide) rfl ?_
    refine SG rfl (by decide) rfl ?_
    refine V (x_pick_f rfl (by conv => lhs; whnf)) rfl ?_
    refine WL_nil ?_
    refine W_false (rfl) ?_
    refine W_skip ?_
    refine W_seq ?_
    refine W_region ?_
    refine V (x_assign (by conv => lhs; whnf)) rfl ?_
    refine WL_nil ?_
    refine W_ret ?_
    repeat (with_reducible (first | refine rt ?_ | refine rb ?_))
    exact bodyE_1 rfl rfl ⟨rfl, rfl⟩
  · obtain ⟨g, o, rfl, hcell⟩ := h (by rintro rfl; simp at hn)
    have g1 : L[L.length - 1]? = some (L[L.length - 1]'(by omega)) := List.getElem?_eq_getElem (by omega)
    have hnl := nlLen_last (L := L) (by omega)
    by_cases h10 : (L[L.length - 1]'(by omega)) = 10
    · rw [if_pos h10] at hnl
      refine W_seq ?_
      refine W_region ?_
      refine V (x_assign (by conv => lhs; whnf)) rfl ?_
      refine WL_nil ?_
      refine W_seq ?_
      refine W_seq ?_
      refine W_region ?_
      refine V (x_move (by conv => lhs; whnf)) rfl ?_
      refine V (x_len_slice Tryd.underlying62 rfl) rfl ?_
      refine V (x_bin rfl rfl (bt (decide_eq_true (by omega)))) rfl ?_
      refine V (x_move (by conv => lhs; whnf)) rfl ?_
      refine VG rfl (x_move (by conv => lhs; whnf)) rfl ?_
      refine VG rfl (x_move (by conv => lhs; whnf)) rfl ?_
      refine VG rfl (x_len_slice Tryd.underlying62 rfl) rfl ?_
      refine VG rfl (x_bin rfl rfl (ib_subn (m := L.length - 1) (by omega) (by omega))) rfl ?_
      refine VG rfl (x_index Tryd.underlying62 sz5 rfl rfl rfl (by omega)) rfl ?_
      refine VG rfl (x_load ld5 rfl (hcell _ _ g1)) rfl ?_
      refine VG rfl (x_bin rfl rfl (bt (byte_eq h10))) rfl ?_
      refine V (x_pick_t rfl (by conv => lhs; whnf)) rfl ?_
      refine WL_nil ?_
      refine W_true (rfl) ?_
      refine W_seq ?_
      refine W_region ?_
      refine V (x_assign (by conv => lhs; whnf)) rfl ?_
      refine WL_nil ?_
      refine W_ret ?_
      repeat (with_reducible (first | refine rt ?_ | refine rb ?_))
      exact bodyE_1 rfl rfl ⟨by rw [hnl]; rfl, rfl⟩
    · rw [if_neg h10] at hnl
      refine W_seq ?_
      refine W_region ?_
      refine V (x_assign (by conv => lhs; whnf)) rfl ?_
      refine WL_nil ?_
      refine W_seq ?_
      refine W_seq ?_
      refine W_region ?_
      refine V (x_move (by conv => lhs; whnf)) rfl ?_
      refine V (x_len_slice Tryd.underlying62 rfl) rfl ?_
      refine V (x_bin rfl rfl (bt (decide_eq_true (by omega)))) rfl ?_
      refine V (x_move (by conv => lhs; whnf)) rfl ?_
      refine VG rfl (x_move (by conv => lhs; whnf)) rfl ?_
      refine VG rfl (x_move (by conv => lhs; whnf)) rfl ?_
      refine VG rfl (x_len_slice Tryd.underlying62 rfl) rfl ?_
      refine VG rfl (x_bin rfl rfl (ib_subn (m := L.length - 1) (by omega) (by omega))) rfl ?_
      refine VG rfl (x_index Tryd.underlying62 sz5 rfl rfl rfl (by omega)) rfl ?_
      refine VG rfl (x_load ld5 rfl (hcell _ _ g1)) rfl ?_
      refine VG rfl (x_bin rfl rfl (bf (byte_ne h10))) rfl ?_
      refine V (x_pick_t rfl (by conv => lhs; whnf)) rfl ?_
      refine WL_nil ?_
      refine W_false (rfl) ?_
      refine W_skip ?_
      refine W_seq ?_
      refine W_region ?_
      refine V (x_assign (by conv => lhs; whnf)) rfl ?_
      refine WL_nil ?_
      refine W_ret ?_
      repeat (with_reducible (first | refine rt ?_ | refine rb ?_))
      exact bodyE_1 rfl rfl ⟨by rw [hnl]; rfl, rfl⟩

/-- The rune at the head of some bytes, and its width. -/
@[irreducible] def decB (L : Bytes) : Nat × Nat := Lib.decodeGo ⟨L.toArray⟩
def runeB (L : Bytes) : Int := ((decB L).1 : Int)
theorem ret_of_calls {P : Program} {f : FuncId} {args : Array Value} {w : World} {v : Value} {R : World → Prop} (h : Calls P f args w fun e w' => e = .returned v ∧ R w') : Ret P f args w fun u w' => u = v ∧ R w' :=
  Calls.mono h fun _ _ ⟨he, hr⟩ => ⟨v, he, rfl, hr⟩
theorem decB_nil : decB [] = (65533, 0) := by unfold decB; rfl
theorem decSlow_nil (A : Option Addr) (c : Nat) (w : World) : Ret Tryd.prog 70 #[.slice A 0 c] w fun v w' => v = .tuple #[.int .i32 65533, .int .i64 0] ∧ w = w' := by
  refine ret_of_W Tryd.func70 rfl (Nat.le_of_ble_eq_true rfl) ?_
  refine W_seq ?_
  refine W_region ?_
  refine V (x_assign (by conv => lhs; whnf)) rfl ?_
  refine V (x_assign (by conv => lhs; whnf)) rfl ?_
  refine WL_nil ?_
  refine W_seq ?_
  refine W_region ?_
  refine V (x_move (by conv => lhs; whnf)) rfl ?_
  refine V (x_len_slice Tryd.underlying62 rfl) rfl ?_
  refine V (x_assign (by conv => lhs; whnf)) rfl ?_
  refine WL_nil ?_
  refine W_seq ?_
  refine W_seq ?_
  refine W_region ?_
  refine V (x_move (by conv => lhs; whnf)) rfl ?_
  refine V (x_bin rfl rfl (bt rfl)) rfl ?_
  refine WL_nil ?_
  refine W_true (rfl) ?_
  refine W_seq ?_
  refine W_region ?_
  refine V (x_assign (by conv => lhs; whnf)) rfl ?_
  refine V (x_assign (by conv => lhs; whnf)) rfl ?_
  refine WL_nil ?_
  refine W_ret ?_
  repeat (with_reducible (first | refine rt ?_ | refine rb ?_))
  exact bodyE_2 rfl rfl rfl ⟨rfl, rfl⟩
theorem DecodeRune_nil (A : Option Addr) (c : Nat) (w : World) : Ret Tryd.prog 59 #[.slice A 0 c] w fun v w' => v = .tuple #[.int .i32 65533, .int .i64 0] ∧ w = w' := by
  refine ret_of_W Tryd.func59 rfl (Nat.le_of_ble_eq_true rfl) ?_
  refine W_seq ?_
  refine W_region ?_
  refine V (x_assign (by conv => lhs; whnf)) rfl ?_
  refine V (x_assign (by conv => lhs; whnf)) rfl ?_
  refine WL_nil ?_
  refine W_seq ?_
  refine W_seq ?_
  refine W_region ?_
  refine V (x_move (by conv => lhs; whnf)) rfl ?_
  refine V (x_len_slice Tryd.underlying62 rfl) rfl ?_
  refine V (x_move (by conv => lhs; whnf)) rfl ?_
  refine WL_nil ?_
  refine W_block ?_
  refine W_once ?_
  refine W_seq ?_
  refine W_region ?_
  refine V (x_bin rfl rfl (bf rfl)) rfl ?_
  refine WL_nil ?_
  refine W_seq ?_
  refine W_false (rfl) ?_
  refine W_exit ?_
  refine W_seq ?_
  refine W_region ?_
  refine V (x_move (by conv => lhs; whnf)) rfl ?_
  refine C (x_call1 cf70 (by conv => lhs; whnf)) rfl ?_
  refine (decSlow_nil A c _).mono fun v w1 h1 => ?_
  obtain ⟨rfl, rfl⟩ := h1
  refine V (x_move (by conv => lhs; whnf)) rfl ?_
  refine V (x_extract rfl rfl) rfl ?_
  refine V (x_extract rfl rfl) rfl ?_
  refine V (x_assign (by conv => lhs; whnf)) rfl ?_
  refine V (x_assign (by conv => lhs; whnf)) rfl ?_
  refine WL_nil ?_
  refine W_ret ?_
  repeat (with_reducible (first | refine rt ?_ | refine rb ?_))
  exact bodyE_2 rfl rfl rfl ⟨rfl, rfl⟩
theorem DecodeRune_ok (A : Option Addr) (L : Bytes) (c : Nat) (w : World) (h : At w A L) (hT : Lib.Utf8Tabs 10 11 w) :
    Ret Tryd.prog 59 #[.slice A L.length c] w fun v w' => v = .tuple #[.int .i32 (decB L).1, .int .i64 (decB L).2] ∧ Below w.heap.size w w' := by
  by_cases hn : L = []
  · subst hn
    refine (DecodeRune_nil A c w).mono ?_
    rintro v w' ⟨rfl, rfl⟩
    rw [decB_nil]
    exact ⟨rfl, Below.refl _ _⟩
  · obtain ⟨g, o, rfl, hcell⟩ := h hn
    have hs : (⟨L.toArray⟩ : ByteArray).size = L.length := by simp [ByteArray.size]
    have := Tryd.utf8_DecodeRune ⟨L.toArray⟩ g o c w hT (fun j hj => by
      rw [hs] at hj
      have hj2 : L[j]? = some (L[j]'hj) := List.getElem?_eq_getElem hj
      rw [hcell j _ hj2]
      have : (⟨L.toArray⟩ : ByteArray).get! j = L[j]'hj := by
        show L.toArray[j]! = _
        simp [hj]
      rw [this]
      rfl)
    rw [hs] at this
    unfold decB
    exact ret_of_calls this
theorem nextRune_ok (A : Option Addr) (L : Bytes) (c : Nat) (w : World) (h : At w A L) (hT : Lib.Utf8Tabs 10 11 w) :
    Ret Tryd.prog 46 #[.slice A L.length c] w fun v w' => v = .int .i32 (runeB L) ∧ Below w.heap.size w w' := by
  refine ret_of_W Tryd.func46 rfl (Nat.le_of_ble_eq_true rfl) ?_
  refine W_seq ?_
  refine W_region ?_
  refine V (x_assign (by conv => lhs; whnf)) rfl ?_
  refine WL_nil ?_
  refine W_seq ?_
  refine W_region ?_
  refine V (x_move (by conv => lhs; whnf)) rfl ?_
  refine C (x_call1 cf59 (by conv => lhs; whnf)) rfl ?_
  refine (DecodeRune_ok A L c _ h hT).mono fun v w1 h1 => ?_
  obtain ⟨rfl, hb⟩ := h1
  refine V (x_move (by conv => lhs; whnf)) rfl ?_
  refine V (x_extract rfl rfl) rfl ?_
  refine V (x_extract rfl rfl) rfl ?_
  refine V (x_assign (by conv => lhs; whnf)) rfl ?_
  refine V (x_assign (by conv => lhs; whnf)) rfl ?_
  refine WL_nil ?_
  refine W_seq ?_
  refine W_region ?_
  refine V (x_move (by conv => lhs; whnf)) rfl ?_
  refine V (x_assign (by conv => lhs; whnf)) rfl ?_
  refine WL_nil ?_
  refine W_ret ?_
  repeat (with_reducible (first | refine rt ?_ | refine rb ?_))
  exact bodyE_1 rfl rfl ⟨rfl, hb⟩
end Go.Proofs.YtcdhbfhijkdfoaaDoor
