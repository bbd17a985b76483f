/-
  laws.delimiter, commaRune, good.
-/
import Derived.Test.YtcdhbfhijkdfoaaDoorIk
import Derived.Test.YtcdhbfhijkdfoaaDoorEg
namespace Go.Proofs.YtcdhbfhijkdfoaaDoor
open Go.EC Go.RowKit

theorem delimR_iff (r : Int) : delimR r = true ↔ 0 < r ∧ r ≤ 1114111 ∧ (r < 55296 ∨ 57343 < r) ∧ r ≠ 34 ∧ r ≠ 13 ∧ r ≠ 10 ∧ r ≠ 65533 := by
  unfold delimR
  rw [decide_eq_true_iff]
  unfold Lib.validRune
  simp only [decide_eq_true_eq]
  omega
theorem delimR_t {r : Int} (h : 0 < r ∧ r ≤ 1114111 ∧ (r < 55296 ∨ 57343 < r) ∧ r ≠ 34 ∧ r ≠ 13 ∧ r ≠ 10 ∧ r ≠ 65533) : delimR r = true := (delimR_iff r).2 h
theorem delimR_f {r : Int} (h : ¬ (0 < r ∧ r ≤ 1114111 ∧ (r < 55296 ∨ 57343 < r) ∧ r ≠ 34 ∧ r ≠ 13 ∧ r ≠ 10 ∧ r ≠ 65533)) : delimR r = false := by
  rw [← Bool.not_eq_true, delimR_iff]; exact h
theorem delimiter_ok (r : Int) (w : World) : Ret Tryd.prog 32 #[.int .i32 r] w fun v w' => v = .bool (delimR r) ∧ w = w' := by
  refine ret_of_W Tryd.func32 rfl (Nat.le_of_ble_eq_true rfl) ?_
  by_cases h1 : r ≤ 0
  · rw [delimR_f (by omega)]
    refine W_seq ?_
    refine W_region ?_
    refine V (x_assign (by conv => lhs; whnf)) rfl ?_
    refine WL_nil ?_
    refine W_seq ?_
    refine W_region ?_
    refine V (x_move (by conv => lhs; whnf)) rfl ?_
    refine V (x_bin rfl rfl (bf (decide_eq_false (by omega)))) rfl ?_
    refine V (x_move (by conv => lhs; whnf)) rfl ?_
    refine SG rfl (by decide) rfl ?_
    refine SG rfl (by decide) rfl ?_
    refine V (x_pick_f rfl (by conv => lhs; whnf)) rfl ?_
    refine V (x_move (by conv => lhs; whnf)) rfl ?_
    refine SG rfl (by decide) rfl ?_
    refine SG rfl (by decide) rfl ?_
    refine SG rfl (by decide) rfl ?_
    refine SU rfl rfl ?_
    refine SU rfl rfl ?_
    refine SG rfl (by decide) rfl ?_
    refine V (x_pick_f rfl (by conv => lhs; whnf)) rfl ?_
    refine V (x_move (by conv => lhs; whnf)) rfl ?_
    refine SG rfl (by decide) rfl ?_
    refine SG rfl (by decide) rfl ?_
    refine V (x_pick_f rfl (by conv => lhs; whnf)) rfl ?_
    refine V (x_move (by conv => lhs; whnf)) rfl ?_
    refine SG rfl (by decide) rfl ?_
    refine SG rfl (by decide) rfl ?_
    refine V (x_pick_f rfl (by conv => lhs; whnf)) rfl ?_
    refine V (x_move (by conv => lhs; whnf)) rfl ?_
    refine SG rfl (by decide) rfl ?_
    refine SG rfl (by decide) rfl ?_
    refine V (x_pick_f rfl (by conv => lhs; whnf)) rfl ?_
    refine V (x_move (by conv => lhs; whnf)) rfl ?_
    refine SG rfl (by decide) rfl ?_
    refine SG rfl (by decide) rfl ?_
    refine V (x_pick_f rfl (by conv => lhs; whnf)) rfl ?_
    refine V (x_assign (by conv => lhs; whnf)) rfl ?_
    refine WL_nil ?_
    refine W_ret ?_
    repeat (with_reducible (first | refine rt ?_ | refine rb ?_))
    exact bodyE_1 rfl rfl ⟨rfl, rfl⟩
  by_cases h2 : 1114111 < r
  · rw [delimR_f (by omega)]
    refine W_seq ?_
    refine W_region ?_
    refine V (x_assign (by conv => lhs; whnf)) rfl ?_
    refine WL_nil ?_
    refine W_seq ?_
    refine W_region ?_
    refine V (x_move (by conv => lhs; whnf)) rfl ?_
    refine V (x_bin rfl rfl (bt (decide_eq_true (by omega)))) rfl ?_
    refine V (x_move (by conv => lhs; whnf)) rfl ?_
    refine VG rfl (x_move (by conv => lhs; whnf)) rfl ?_
    refine VG rfl (x_bin rfl rfl (bf (decide_eq_false (by omega)))) rfl ?_
    refine V (x_pick_t rfl (by conv => lhs; whnf)) rfl ?_
    refine V (x_move (by conv => lhs; whnf)) rfl ?_
    refine SG rfl (by decide) rfl ?_
    refine SG rfl (by decide) rfl ?_
    refine SG rfl (by decide) rfl ?_
    refine SU rfl rfl ?_
    refine SU rfl rfl ?_
    refine SG rfl (by decide) rfl ?_
    refine V (x_pick_f rfl (by conv => lhs; whnf)) rfl ?_
    refine V (x_move (by conv => lhs; whnf)) rfl ?_
    refine SG rfl (by decide) rfl ?_
    refine SG rfl (by decide) rfl ?_
    refine V (x_pick_f rfl (by conv => lhs; whnf)) rfl ?_
    refine V (x_move (by conv => lhs; whnf)) rfl ?_
    refine SG rfl (by decide) rfl ?_
    refine SG rfl (by decide) rfl ?_
    refine V (x_pick_f rfl (by conv => lhs; whnf)) rfl ?_
    refine V (x_move (by conv => lhs; whnf)) rfl ?_
    refine SG rfl (by decide) rfl ?_
    refine SG rfl (by decide) rfl ?_
    refine V (x_pick_f rfl (by conv => lhs; whnf)) rfl ?_
    refine V (x_move (by conv => lhs; whnf)) rfl ?_
    refine SG rfl (by decide) rfl ?_
    refine SG rfl (by decide) rfl ?_
    refine V (x_pick_f rfl (by conv => lhs; whnf)) rfl ?_
    refine V (x_assign (by conv => lhs; whnf)) rfl ?_
    refine WL_nil ?_
    refine W_ret ?_
    repeat (with_reducible (first | refine rt ?_ | refine rb ?_))
    exact bodyE_1 rfl rfl ⟨rfl, rfl⟩
  by_cases h3 : r < 55296
  · by_cases h4 : r = 34
    · rw [delimR_f (by omega)]
      refine W_seq ?_
      refine W_region ?_
      refine V (x_assign (by conv => lhs; whnf)) rfl ?_
      refine WL_nil ?_
      refine W_seq ?_
      refine W_region ?_
      refine V (x_move (by conv => lhs; whnf)) rfl ?_
      refine V (x_bin rfl rfl (bt (decide_eq_true (by omega)))) rfl ?_
      refine V (x_move (by conv => lhs; whnf)) rfl ?_
      refine VG rfl (x_move (by conv => lhs; whnf)) rfl ?_
      refine VG rfl (x_bin rfl rfl (bt (decide_eq_true (by omega)))) rfl ?_
      refine V (x_pick_t rfl (by conv => lhs; whnf)) rfl ?_
      refine V (x_move (by conv => lhs; whnf)) rfl ?_
      refine VG rfl (x_move (by conv => lhs; whnf)) rfl ?_
      refine VG rfl (x_bin rfl rfl (bt (decide_eq_true (by omega)))) rfl ?_
      refine VG rfl (x_move (by conv => lhs; whnf)) rfl ?_
      refine SG rfl (by decide) rfl ?_
      refine SG rfl (by decide) rfl ?_
      refine VG rfl (x_pick_t rfl (by conv => lhs; whnf)) rfl ?_
      refine V (x_pick_t rfl (by conv => lhs; whnf)) rfl ?_
      refine V (x_move (by conv => lhs; whnf)) rfl ?_
      refine VG rfl (x_move (by conv => lhs; whnf)) rfl ?_
      refine VG rfl (x_bin rfl rfl (bf (bne_eq_false_iff_eq.2 (by omega)))) rfl ?_
      refine V (x_pick_t rfl (by conv => lhs; whnf)) rfl ?_
      refine V (x_move (by conv => lhs; whnf)) rfl ?_
      refine SG rfl (by decide) rfl ?_
      refine SG rfl (by decide) rfl ?_
      refine V (x_pick_f rfl (by conv => lhs; whnf)) rfl ?_
      refine V (x_move (by conv => lhs; whnf)) rfl ?_
      refine SG rfl (by decide) rfl ?_
      refine SG rfl (by decide) rfl ?_
      refine V (x_pick_f rfl (by conv => lhs; whnf)) rfl ?_
      refine V (x_move (by conv => lhs; whnf)) rfl ?_
      refine SG rfl (by decide) rfl ?_
      refine SG rfl (by decide) rfl ?_
      refine V (x_pick_f rfl (by conv => lhs; whnf)) rfl ?_
      refine V (x_assign (by conv => lhs; whnf)) rfl ?_
      refine WL_nil ?_
      refine W_ret ?_
      repeat (with_reducible (first | refine rt ?_ | refine rb ?_))
      exact bodyE_1 rfl rfl ⟨rfl, rfl⟩
    by_cases h5 : r = 13
    · rw [delimR_f (by omega)]
      refine W_seq ?_
      refine W_region ?_
      refine V (x_assign (by conv => lhs; whnf)) rfl ?_
      refine WL_nil ?_
      refine W_seq ?_
      refine W_region ?_
      refine V (x_move (by conv => lhs; whnf)) rfl ?_
      refine V (x_bin rfl rfl (bt (decide_eq_true (by omega)))) rfl ?_
      refine V (x_move (by conv => lhs; whnf)) rfl ?_
      refine VG rfl (x_move (by conv => lhs; whnf)) rfl ?_
      refine VG rfl (x_bin rfl rfl (bt (decide_eq_true (by omega)))) rfl ?_
      refine V (x_pick_t rfl (by conv => lhs; whnf)) rfl ?_
      refine V (x_move (by conv => lhs; whnf)) rfl ?_
      refine VG rfl (x_move (by conv => lhs; whnf)) rfl ?_
      refine VG rfl (x_bin rfl rfl (bt (decide_eq_true (by omega)))) rfl ?_
      refine VG rfl (x_move (by conv => lhs; whnf)) rfl ?_
      refine SG rfl (by decide) rfl ?_
      refine SG rfl (by decide) rfl ?_
      refine VG rfl (x_pick_t rfl (by conv => lhs; whnf)) rfl ?_
      refine V (x_pick_t rfl (by conv => lhs; whnf)) rfl ?_
      refine V (x_move (by conv => lhs; whnf)) rfl ?_
      refine VG rfl (x_move (by conv => lhs; whnf)) rfl ?_
      refine VG rfl (x_bin rfl rfl (bt (bne_iff_ne.2 (by omega)))) rfl ?_
      refine V (x_pick_t rfl (by conv => lhs; whnf)) rfl ?_
      refine V (x_move (by conv => lhs; whnf)) rfl ?_
      refine VG rfl (x_move (by conv => lhs; whnf)) rfl ?_
      refine VG rfl (x_bin rfl rfl (bf (bne_eq_false_iff_eq.2 (by omega)))) rfl ?_
      refine V (x_pick_t rfl (by conv => lhs; whnf)) rfl ?_
      refine V (x_move (by conv => lhs; whnf)) rfl ?_
      refine SG rfl (by decide) rfl ?_
      refine SG rfl (by decide) rfl ?_
      refine V (x_pick_f rfl (by conv => lhs; whnf)) rfl ?_
      refine V (x_move (by conv => lhs; whnf)) rfl ?_
      refine SG rfl (by decide) rfl ?_
      refine SG rfl (by decide) rfl ?_
      refine V (x_pick_f rfl (by conv => lhs; whnf)) rfl ?_
      refine V (x_assign (by conv => lhs; whnf)) rfl ?_
      refine WL_nil ?_
      refine W_ret ?_
      repeat (with_reducible (first | refine rt ?_ | refine rb ?_))
      exact bodyE_1 rfl rfl ⟨rfl, rfl⟩
    by_cases h6 : r = 10
    · rw [delimR_f (by omega)]
      refine W_seq ?_
      refine W_region ?_
      refine V (x_assign (by conv => lhs; whnf)) rfl ?_
      refine WL_nil ?_
      refine W_seq ?_
      refine W_region ?_
      refine V (x_move (by conv => lhs; whnf)) rfl ?_
      refine V (x_bin rfl rfl (bt (decide_eq_true (by omega)))) rfl ?_
      refine V (x_move (by conv => lhs; whnf)) rfl ?_
      refine VG rfl (x_move (by conv => lhs; whnf)) rfl ?_
      refine VG rfl (x_bin rfl rfl (bt (decide_eq_true (by omega)))) rfl ?_
      refine V (x_pick_t rfl (by conv => lhs; whnf)) rfl ?_
      refine V (x_move (by conv => lhs; whnf)) rfl ?_
      refine VG rfl (x_move (by conv => lhs; whnf)) rfl ?_
      refine VG rfl (x_bin rfl rfl (bt (decide_eq_true (by omega)))) rfl ?_
      refine VG rfl (x_move (by conv => lhs; whnf)) rfl ?_
      refine SG rfl (by decide) rfl ?_
      refine SG rfl (by decide) rfl ?_
      refine VG rfl (x_pick_t rfl (by conv => lhs; whnf)) rfl ?_
      refine V (x_pick_t rfl (by conv => lhs; whnf)) rfl ?_
      refine V (x_move (by conv => lhs; whnf)) rfl ?_
      refine VG rfl (x_move (by conv => lhs; whnf)) rfl ?_
      refine VG rfl (x_bin rfl rfl (bt (bne_iff_ne.2 (by omega)))) rfl ?_
      refine V (x_pick_t rfl (by conv => lhs; whnf)) rfl ?_
      refine V (x_move (by conv => lhs; whnf)) rfl ?_
      refine VG rfl (x_move (by conv => lhs; whnf)) rfl ?_
      refine VG rfl (x_bin rfl rfl (bt (bne_iff_ne.2 (by omega)))) rfl ?_
      refine V (x_pick_t rfl (by conv => lhs; whnf)) rfl ?_
      refine V (x_move (by conv => lhs; whnf)) rfl ?_
      refine VG rfl (x_move (by conv => lhs; whnf)) rfl ?_
      refine VG rfl (x_bin rfl rfl (bf (bne_eq_false_iff_eq.2 (by omega)))) rfl ?_
      refine V (x_pick_t rfl (by conv => lhs; whnf)) rfl ?_
      refine V (x_move (by conv => lhs; whnf)) rfl ?_
      refine SG rfl (by decide) rfl ?_
      refine SG rfl (by decide) rfl ?_
      refine V (x_pick_f rfl (by conv => lhs; whnf)) rfl ?_
      refine V (x_assign (by conv => lhs; whnf)) rfl ?_
      refine WL_nil ?_
      refine W_ret ?_
      repeat (with_reducible (first | refine rt ?_ | refine rb ?_))
      exact bodyE_1 rfl rfl ⟨rfl, rfl⟩
    rw [delimR_t (by omega)]
    refine W_seq ?_
    refine W_region ?_
    refine V (x_assign (by conv => lhs; whnf)) rfl ?_
    refine WL_nil ?_
    refine W_seq ?_
    refine W_region ?_
    refine V (x_move (by conv => lhs; whnf)) rfl ?_
    refine V (x_bin rfl rfl (bt (decide_eq_true (by omega)))) rfl ?_
    refine V (x_move (by conv => lhs; whnf)) rfl ?_
    refine VG rfl (x_move (by conv => lhs; whnf)) rfl ?_
    refine VG rfl (x_bin rfl rfl (bt (decide_eq_true (by omega)))) rfl ?_
    refine V (x_pick_t rfl (by conv => lhs; whnf)) rfl ?_
    refine V (x_move (by conv => lhs; whnf)) rfl ?_
    refine VG rfl (x_move (by conv => lhs; whnf)) rfl ?_
    refine VG rfl (x_bin rfl rfl (bt (decide_eq_true (by omega)))) rfl ?_
    refine VG rfl (x_move (by conv => lhs; whnf)) rfl ?_
    refine SG rfl (by decide) rfl ?_
    refine SG rfl (by decide) rfl ?_
    refine VG rfl (x_pick_t rfl (by conv => lhs; whnf)) rfl ?_
    refine V (x_pick_t rfl (by conv => lhs; whnf)) rfl ?_
    refine V (x_move (by conv => lhs; whnf)) rfl ?_
    refine VG rfl (x_move (by conv => lhs; whnf)) rfl ?_
    refine VG rfl (x_bin rfl rfl (bt (bne_iff_ne.2 (by omega)))) rfl ?_
    refine V (x_pick_t rfl (by conv => lhs; whnf)) rfl ?_
    refine V (x_move (by conv => lhs; whnf)) rfl ?_
    refine VG rfl (x_move (by conv => lhs; whnf)) rfl ?_
    refine VG rfl (x_bin rfl rfl (bt (bne_iff_ne.2 (by omega)))) rfl ?_
    refine V (x_pick_t rfl (by conv => lhs; whnf)) rfl ?_
    refine V (x_move (by conv => lhs; whnf)) rfl ?_
    refine VG rfl (x_move (by conv => lhs; whnf)) rfl ?_
    refine VG rfl (x_bin rfl rfl (bt (bne_iff_ne.2 (by omega)))) rfl ?_
    refine V (x_pick_t rfl (by conv => lhs; whnf)) rfl ?_
    refine V (x_move (by conv => lhs; whnf)) rfl ?_
    refine VG rfl (x_move (by conv => lhs; whnf)) rfl ?_
    refine VG rfl (x_bin rfl rfl (bt (bne_iff_ne.2 (by omega)))) rfl ?_
    refine V (x_pick_t rfl (by conv => lhs; whnf)) rfl ?_
    refine V (x_assign (by conv => lhs; whnf)) rfl ?_
    refine WL_nil ?_
    refine W_ret ?_
    repeat (with_reducible (first | refine rt ?_ | refine rb ?_))
    exact bodyE_1 rfl rfl ⟨rfl, rfl⟩
  by_cases h4 : r ≤ 57343
  · rw [delimR_f (by omega)]
    refine W_seq ?_
    refine W_region ?_
    refine V (x_assign (by conv => lhs; whnf)) rfl ?_
    refine WL_nil ?_
    refine W_seq ?_
    refine W_region ?_
    refine V (x_move (by conv => lhs; whnf)) rfl ?_
    refine V (x_bin rfl rfl (bt (decide_eq_true (by omega)))) rfl ?_
    refine V (x_move (by conv => lhs; whnf)) rfl ?_
    refine VG rfl (x_move (by conv => lhs; whnf)) rfl ?_
    refine VG rfl (x_bin rfl rfl (bt (decide_eq_true (by omega)))) rfl ?_
    refine V (x_pick_t rfl (by conv => lhs; whnf)) rfl ?_
    refine V (x_move (by conv => lhs; whnf)) rfl ?_
    refine VG rfl (x_move (by conv => lhs; whnf)) rfl ?_
    refine VG rfl (x_bin rfl rfl (bf (decide_eq_false (by omega)))) rfl ?_
    refine VG rfl (x_move (by conv => lhs; whnf)) rfl ?_
    refine VG rfl (x_move (by conv => lhs; whnf)) rfl ?_
    refine VG rfl (x_bin rfl rfl (bf (decide_eq_false (by omega)))) rfl ?_
    refine VG rfl (x_pick_f rfl (by conv => lhs; whnf)) rfl ?_
    refine V (x_pick_t rfl (by conv => lhs; whnf)) rfl ?_
    refine V (x_move (by conv => lhs; whnf)) rfl ?_
    refine SG rfl (by decide) rfl ?_
    refine SG rfl (by decide) rfl ?_
    refine V (x_pick_f rfl (by conv => lhs; whnf)) rfl ?_
    refine V (x_move (by conv => lhs; whnf)) rfl ?_
    refine SG rfl (by decide) rfl ?_
    refine SG rfl (by decide) rfl ?_
    refine V (x_pick_f rfl (by conv => lhs; whnf)) rfl ?_
    refine V (x_move (by conv => lhs; whnf)) rfl ?_
    refine SG rfl (by decide) rfl ?_
    refine SG rfl (by decide) rfl ?_
    refine V (x_pick_f rfl (by conv => lhs; whnf)) rfl ?_
    refine V (x_move (by conv => lhs; whnf)) rfl ?_
    refine SG rfl (by decide) rfl ?_
    refine SG rfl (by decide) rfl ?_
    refine V (x_pick_f rfl (by conv => lhs; whnf)) rfl ?_
    refine V (x_assign (by conv => lhs; whnf)) rfl ?_
    refine WL_nil ?_
    refine W_ret ?_
    repeat (with_reducible (first | refine rt ?_ | refine rb ?_))
    exact bodyE_1 rfl rfl ⟨rfl, rfl⟩
  by_cases h5 : r = 65533
  · rw [delimR_f (by omega)]
    refine W_seq ?_
    refine W_region ?_
    refine V (x_assign (by conv => lhs; whnf)) rfl ?_
    refine WL_nil ?_
    refine W_seq ?_
    refine W_region ?_
    refine V (x_move (by conv => lhs; whnf)) rfl ?_
    refine V (x_bin rfl rfl (bt (decide_eq_true (by omega)))) rfl ?_
    refine V (x_move (by conv => lhs; whnf)) rfl ?_
    refine VG rfl (x_move (by conv => lhs; whnf)) rfl ?_
    refine VG rfl (x_bin rfl rfl (bt (decide_eq_true (by omega)))) rfl ?_
    refine V (x_pick_t rfl (by conv => lhs; whnf)) rfl ?_
    refine V (x_move (by conv => lhs; whnf)) rfl ?_
    refine VG rfl (x_move (by conv => lhs; whnf)) rfl ?_
    refine VG rfl (x_bin rfl rfl (bf (decide_eq_false (by omega)))) rfl ?_
    refine VG rfl (x_move (by conv => lhs; whnf)) rfl ?_
    refine VG rfl (x_move (by conv => lhs; whnf)) rfl ?_
    refine VG rfl (x_bin rfl rfl (bt (decide_eq_true (by omega)))) rfl ?_
    refine VG rfl (x_pick_f rfl (by conv => lhs; whnf)) rfl ?_
    refine V (x_pick_t rfl (by conv => lhs; whnf)) rfl ?_
    refine V (x_move (by conv => lhs; whnf)) rfl ?_
    refine VG rfl (x_move (by conv => lhs; whnf)) rfl ?_
    refine VG rfl (x_bin rfl rfl (bt (bne_iff_ne.2 (by omega)))) rfl ?_
    refine V (x_pick_t rfl (by conv => lhs; whnf)) rfl ?_
    refine V (x_move (by conv => lhs; whnf)) rfl ?_
    refine VG rfl (x_move (by conv => lhs; whnf)) rfl ?_
    refine VG rfl (x_bin rfl rfl (bt (bne_iff_ne.2 (by omega)))) rfl ?_
    refine V (x_pick_t rfl (by conv => lhs; whnf)) rfl ?_
    refine V (x_move (by conv => lhs; whnf)) rfl ?_
    refine VG rfl (x_move (by conv => lhs; whnf)) rfl ?_
    refine VG rfl (x_bin rfl rfl (bt (bne_iff_ne.2 (by omega)))) rfl ?_
    refine V (x_pick_t rfl (by conv => lhs; whnf)) rfl ?_
    refine V (x_move (by conv => lhs; whnf)) rfl ?_
    refine VG rfl (x_move (by conv => lhs; whnf)) rfl ?_
    refine VG rfl (x_bin rfl rfl (bf (bne_eq_false_iff_eq.2 (by omega)))) rfl ?_
    refine V (x_pick_t rfl (by conv => lhs; whnf)) rfl ?_
    refine V (x_assign (by conv => lhs; whnf)) rfl ?_
    refine WL_nil ?_
    refine W_ret ?_
    repeat (with_reducible (first | refine rt ?_ | refine rb ?_))
    exact bodyE_1 rfl rfl ⟨rfl, rfl⟩
  rw [delimR_t (by omega)]
  refine W_seq ?_
  refine W_region ?_
  refine V (x_assign (by conv => lhs; whnf)) rfl ?_
  refine WL_nil ?_
  refine W_seq ?_
  refine W_region ?_
  refine V (x_move (by conv => lhs; whnf)) rfl ?_
  refine V (x_bin rfl rfl (bt (decide_eq_true (by omega)))) rfl ?_
  refine V (x_move (by conv => lhs; whnf)) rfl ?_
  refine VG rfl (x_move (by conv => lhs; whnf)) rfl ?_
  refine VG rfl (x_bin rfl rfl (bt (decide_eq_true (by omega)))) rfl ?_
  refine V (x_pick_t rfl (by conv => lhs; whnf)) rfl ?_
  refine V (x_move (by conv => lhs; whnf)) rfl ?_
  refine VG rfl (x_move (by conv => lhs; whnf)) rfl ?_
  refine VG rfl (x_bin rfl rfl (bf (decide_eq_false (by omega)))) rfl ?_
  refine VG rfl (x_move (by conv => lhs; whnf)) rfl ?_
  refine VG rfl (x_move (by conv => lhs; whnf)) rfl ?_
  refine VG rfl (x_bin rfl rfl (bt (decide_eq_true (by omega)))) rfl ?_
  refine VG rfl (x_pick_f rfl (by conv => lhs; whnf)) rfl ?_
  refine V (x_pick_t rfl (by conv => lhs; whnf)) rfl ?_
  refine V (x_move (by conv => lhs; whnf)) rfl ?_
  refine VG rfl (x_move (by conv => lhs; whnf)) rfl ?_
  refine VG rfl (x_bin rfl rfl (bt (bne_iff_ne.2 (by omega)))) rfl ?_
  refine V (x_pick_t rfl (by conv => lhs; whnf)) rfl ?_
  refine V (x_move (by conv => lhs; whnf)) rfl ?_
  refine VG rfl (x_move (by conv => lhs; whnf)) rfl ?_
  refine VG rfl (x_bin rfl rfl (bt (bne_iff_ne.2 (by omega)))) rfl ?_
  refine V (x_pick_t rfl (by conv => lhs; whnf)) rfl ?_
  refine V (x_move (by conv => lhs; whnf)) rfl ?_
  refine VG rfl (x_move (by conv => lhs; whnf)) rfl ?_
  refine VG rfl (x_bin rfl rfl (bt (bne_iff_ne.2 (by omega)))) rfl ?_
  refine V (x_pick_t rfl (by conv => lhs; whnf)) rfl ?_
  refine V (x_move (by conv => lhs; whnf)) rfl ?_
  refine VG rfl (x_move (by conv => lhs; whnf)) rfl ?_
  refine VG rfl (x_bin rfl rfl (bt (bne_iff_ne.2 (by omega)))) rfl ?_
  refine V (x_pick_t rfl (by conv => lhs; whnf)) rfl ?_
  refine V (x_assign (by conv => lhs; whnf)) rfl ?_
  refine WL_nil ?_
  refine W_ret ?_
  repeat (with_reducible (first | refine rt ?_ | refine rb ?_))
  exact bodyE_1 rfl rfl ⟨rfl, rfl⟩

theorem commaRune_ok (o : Opt) (w : World) : Ret Tryd.prog 33 #[.agg o.cells.toArray] w fun v w' => v = .int .i32 o.comma ∧ Only (fun _ => False) w w' := by
  refine ret_of_W Tryd.func33 rfl (Nat.le_of_ble_eq_true rfl) ?_
  have hO := Blk.new w 23 o.cells
  by_cases hz : o.cm = 0
  · have hc : o.comma = 44 := by unfold Opt.comma; rw [if_pos hz]
    rw [hc]
    conv => arg 3; whnf
    refine W_seq ?_
    refine W_region ?_
    refine V (x_box (cs := o.cells) rfl) rfl ?_
    refine V (x_assign (by conv => lhs; whnf)) rfl ?_
    refine WL_nil ?_
    refine W_seq ?_
    refine W_seq ?_
    refine W_region ?_
    refine V (x_field0 fa23_0 rfl) rfl ?_
    refine V (x_load ld21 rfl ((hO).cell 0 rfl)) rfl ?_
    refine V (x_bin rfl rfl (bt (beq_iff_eq.2 (by omega)))) rfl ?_
    refine WL_nil ?_
    refine W_true (rfl) ?_
    refine W_seq ?_
    refine W_region ?_
    refine V (x_assign (by conv => lhs; whnf)) rfl ?_
    refine WL_nil ?_
    refine W_ret ?_
    repeat (with_reducible (first | refine rt ?_ | refine rb ?_))
    exact bodyE_1 rfl rfl ⟨rfl, Only.alloc _ _ _⟩
  · have hc : o.comma = o.cm := by unfold Opt.comma; rw [if_neg hz]
    rw [hc]
    conv => arg 3; whnf
    refine W_seq ?_
    refine W_region ?_
    refine V (x_box (cs := o.cells) rfl) rfl ?_
    refine V (x_assign (by conv => lhs; whnf)) rfl ?_
    refine WL_nil ?_
    refine W_seq ?_
    refine W_seq ?_
    refine W_region ?_
    refine V (x_field0 fa23_0 rfl) rfl ?_
    refine V (x_load ld21 rfl ((hO).cell 0 rfl)) rfl ?_
    refine V (x_bin rfl rfl (bf (beq_eq_false_iff_ne.2 (by omega)))) rfl ?_
    refine WL_nil ?_
    refine W_false (rfl) ?_
    refine W_skip ?_
    refine W_seq ?_
    refine W_region ?_
    refine V (x_field0 fa23_0 rfl) rfl ?_
    refine V (x_load ld21 rfl ((hO).cell 0 rfl)) rfl ?_
    refine V (x_assign (by conv => lhs; whnf)) rfl ?_
    refine WL_nil ?_
    refine W_ret ?_
    repeat (with_reducible (first | refine rt ?_ | refine rb ?_))
    exact bodyE_1 rfl rfl ⟨rfl, Only.alloc _ _ _⟩

/-- Good options. -/
def Opt.good (o : Opt) : Bool := delimR o.comma && (o.ct == 0 || (delimR o.ct && o.ct != o.comma))
theorem good_ok (o : Opt) (w : World) : Ret Tryd.prog 16 #[.agg o.cells.toArray] w fun v w' => v = .bool o.good ∧ Only (fun _ => False) w w' := by
  refine ret_of_W Tryd.func16 rfl (Nat.le_of_ble_eq_true rfl) ?_
  have hO := Blk.new w 23 o.cells
  have hAl : Only (fun _ => False) w (w.alloc (.cells o.cells.toArray 23)) := Only.alloc _ _ _
  have keep : ∀ {w1 w2 : World}, (Only (fun _ => False) w w1 ∧ Blk w1 w.heap.size 23 o.cells) → Only (fun _ => False) w1 w2 → (Only (fun _ => False) w w2 ∧ Blk w2 w.heap.size 23 o.cells) := fun h1 h2 => ⟨h1.1.trans h2, h1.2.only h2 id⟩
  have hC : ∀ w1, (Only (fun _ => False) w w1 ∧ Blk w1 w.heap.size 23 o.cells) → Ret Tryd.prog 33 #[.agg o.cells.toArray] w1 fun u w2 => u = .int .i32 o.comma ∧ (Only (fun _ => False) w w2 ∧ Blk w2 w.heap.size 23 o.cells) := fun w1 h1 => (commaRune_ok o w1).mono fun u w2 h2 => ⟨h2.1, keep h1 h2.2⟩
  have hD : ∀ (r : Int) (b : Bool), delimR r = b → ∀ w1, (Only (fun _ => False) w w1 ∧ Blk w1 w.heap.size 23 o.cells) → Ret Tryd.prog 32 #[.int .i32 r] w1 fun u w2 => u = .bool b ∧ (Only (fun _ => False) w w2 ∧ Blk w2 w.heap.size 23 o.cells) := fun r b hb w1 h1 => (delimiter_ok r w1).mono fun u w2 h2 => ⟨by rw [h2.1, hb], by rw [← h2.2]; exact h1⟩
  cases hd : delimR o.comma
  · have hg : o.good = false := by simp [Opt.good, hd]
    rw [hg]
    conv => arg 3; whnf
    refine W_seq ?_
    refine W_region ?_
    refine V (x_box (cs := o.cells) rfl) rfl ?_
    refine V (x_assign (by conv => lhs; whnf)) rfl ?_
    refine WL_nil ?_
    refine W_seq ?_
    refine W_quiet (fun w1 => Only (fun _ => False) w w1 ∧ Blk w1 w.heap.size 23 o.cells) mixed (by kernel_rfl) ⟨hAl.trans (Only.drew _ _), hO.drew⟩ ?_
    refine B (fun w1 hw1 => x_loadA Tryd.underlying23 (cs := o.cells) szO rfl hw1.2) rfl ?_
    refine BC (fun _ => x_call1 cf33 (by conv => lhs; whnf)) (fun w1 hw1 => hC w1 hw1) rfl ?_
    refine BC (fun _ => x_call1 cf32 (by conv => lhs; whnf)) (fun w1 hw1 => hD _ _ hd w1 hw1) rfl ?_
    refine B (fun w1 hw1 => x_move (by conv => lhs; whnf)) rfl ?_
    refine Go.EC.BS rfl (by decide) rfl ?_
    refine Go.EC.BS rfl (by decide) rfl ?_
    refine Go.EC.BS rfl (by decide) rfl ?_
    refine Go.EC.BS rfl (by decide) rfl ?_
    refine BU rfl rfl ?_
    refine BU rfl rfl ?_
    refine BU rfl rfl ?_
    refine BU rfl rfl ?_
    refine BU rfl rfl ?_
    refine BU rfl rfl ?_
    refine BU rfl rfl ?_
    refine BU rfl rfl ?_
    refine BU rfl rfl ?_
    refine BU rfl rfl ?_
    refine Go.EC.BS rfl (by decide) rfl ?_
    refine B (fun w1 hw1 => x_pick_f rfl (by conv => lhs; whnf)) rfl ?_
    refine B (fun w1 hw1 => x_assign (by conv => lhs; whnf)) rfl ?_
    refine BN ?_
    intro w1 hw1
    refine W_ret ?_
    repeat (with_reducible (first | refine rt ?_ | refine rb ?_))
    exact bodyE_1 rfl rfl ⟨rfl, hw1.1⟩
  by_cases hz : o.ct = 0
  · have hg : o.good = true := by simp [Opt.good, hd, hz]
    rw [hg]
    conv => arg 3; whnf
    refine W_seq ?_
    refine W_region ?_
    refine V (x_box (cs := o.cells) rfl) rfl ?_
    refine V (x_assign (by conv => lhs; whnf)) rfl ?_
    refine WL_nil ?_
    refine W_seq ?_
    refine W_quiet (fun w1 => Only (fun _ => False) w w1 ∧ Blk w1 w.heap.size 23 o.cells) mixed (by kernel_rfl) ⟨hAl.trans (Only.drew _ _), hO.drew⟩ ?_
    refine B (fun w1 hw1 => x_loadA Tryd.underlying23 (cs := o.cells) szO rfl hw1.2) rfl ?_
    refine BC (fun _ => x_call1 cf33 (by conv => lhs; whnf)) (fun w1 hw1 => hC w1 hw1) rfl ?_
    refine BC (fun _ => x_call1 cf32 (by conv => lhs; whnf)) (fun w1 hw1 => hD _ _ hd w1 hw1) rfl ?_
    refine B (fun w1 hw1 => x_move (by conv => lhs; whnf)) rfl ?_
    refine BG rfl (fun w1 hw1 => x_field0 fa23_1 rfl) rfl ?_
    refine BG rfl (fun w1 hw1 => x_load ld21 rfl (hw1.2.cell 1 rfl)) rfl ?_
    refine BG rfl (fun w1 hw1 => x_bin rfl rfl (bt (beq_iff_eq.2 (by omega)))) rfl ?_
    refine BG rfl (fun w1 hw1 => x_move (by conv => lhs; whnf)) rfl ?_
    refine Go.EC.BS rfl (by decide) rfl ?_
    refine Go.EC.BS rfl (by decide) rfl ?_
    refine Go.EC.BS rfl (by decide) rfl ?_
    refine Go.EC.BS rfl (by decide) rfl ?_
    refine BU rfl rfl ?_
    refine BU rfl rfl ?_
    refine BU rfl rfl ?_
    refine BU rfl rfl ?_
    refine BU rfl rfl ?_
    refine Go.EC.BS rfl (by decide) rfl ?_
    refine BG rfl (fun w1 hw1 => x_pick_t rfl (by conv => lhs; whnf)) rfl ?_
    refine B (fun w1 hw1 => x_pick_t rfl (by conv => lhs; whnf)) rfl ?_
    refine B (fun w1 hw1 => x_assign (by conv => lhs; whnf)) rfl ?_
    refine BN ?_
    intro w1 hw1
    refine W_ret ?_
    repeat (with_reducible (first | refine rt ?_ | refine rb ?_))
    exact bodyE_1 rfl rfl ⟨rfl, hw1.1⟩
  cases hd2 : delimR o.ct
  · have hg : o.good = false := by simp [Opt.good, hd, hz, hd2]
    rw [hg]
    conv => arg 3; whnf
    refine W_seq ?_
    refine W_region ?_
    refine V (x_box (cs := o.cells) rfl) rfl ?_
    refine V (x_assign (by conv => lhs; whnf)) rfl ?_
    refine WL_nil ?_
    refine W_seq ?_
    refine W_quiet (fun w1 => Only (fun _ => False) w w1 ∧ Blk w1 w.heap.size 23 o.cells) mixed (by kernel_rfl) ⟨hAl.trans (Only.drew _ _), hO.drew⟩ ?_
    refine B (fun w1 hw1 => x_loadA Tryd.underlying23 (cs := o.cells) szO rfl hw1.2) rfl ?_
    refine BC (fun _ => x_call1 cf33 (by conv => lhs; whnf)) (fun w1 hw1 => hC w1 hw1) rfl ?_
    refine BC (fun _ => x_call1 cf32 (by conv => lhs; whnf)) (fun w1 hw1 => hD _ _ hd w1 hw1) rfl ?_
    refine B (fun w1 hw1 => x_move (by conv => lhs; whnf)) rfl ?_
    refine BG rfl (fun w1 hw1 => x_field0 fa23_1 rfl) rfl ?_
    refine BG rfl (fun w1 hw1 => x_load ld21 rfl (hw1.2.cell 1 rfl)) rfl ?_
    refine BG rfl (fun w1 hw1 => x_bin rfl rfl (bf (beq_eq_false_iff_ne.2 (by omega)))) rfl ?_
    refine BG rfl (fun w1 hw1 => x_move (by conv => lhs; whnf)) rfl ?_
    refine BG rfl (fun w1 hw1 => x_field0 fa23_1 rfl) rfl ?_
    refine BG rfl (fun w1 hw1 => x_load ld21 rfl (hw1.2.cell 1 rfl)) rfl ?_
    refine BCG rfl (fun _ => x_call1 cf32 (by conv => lhs; whnf)) (fun w1 hw1 => hD _ _ hd2 w1 hw1) rfl ?_
    refine BG rfl (fun w1 hw1 => x_move (by conv => lhs; whnf)) rfl ?_
    refine Go.EC.BS rfl (by decide) rfl ?_
    refine Go.EC.BS rfl (by decide) rfl ?_
    refine Go.EC.BS rfl (by decide) rfl ?_
    refine Go.EC.BS rfl (by decide) rfl ?_
    refine Go.EC.BS rfl (by decide) rfl ?_
    refine BG rfl (fun w1 hw1 => x_pick_f rfl (by conv => lhs; whnf)) rfl ?_
    refine BG rfl (fun w1 hw1 => x_pick_f rfl (by conv => lhs; whnf)) rfl ?_
    refine B (fun w1 hw1 => x_pick_t rfl (by conv => lhs; whnf)) rfl ?_
    refine B (fun w1 hw1 => x_assign (by conv => lhs; whnf)) rfl ?_
    refine BN ?_
    intro w1 hw1
    refine W_ret ?_
    repeat (with_reducible (first | refine rt ?_ | refine rb ?_))
    exact bodyE_1 rfl rfl ⟨rfl, hw1.1⟩
  by_cases hq : o.ct = o.comma
  · have hg : o.good = false := by simp [Opt.good, hq]; intro _ h; rw [← hq] at h; exact absurd h hz
    rw [hg]
    conv => arg 3; whnf
    refine W_seq ?_
    refine W_region ?_
    refine V (x_box (cs := o.cells) rfl) rfl ?_
    refine V (x_assign (by conv => lhs; whnf)) rfl ?_
    refine WL_nil ?_
    refine W_seq ?_
    refine W_quiet (fun w1 => Only (fun _ => False) w w1 ∧ Blk w1 w.heap.size 23 o.cells) mixed (by kernel_rfl) ⟨hAl.trans (Only.drew _ _), hO.drew⟩ ?_
    refine B (fun w1 hw1 => x_loadA Tryd.underlying23 (cs := o.cells) szO rfl hw1.2) rfl ?_
    refine BC (fun _ => x_call1 cf33 (by conv => lhs; whnf)) (fun w1 hw1 => hC w1 hw1) rfl ?_
    refine BC (fun _ => x_call1 cf32 (by conv => lhs; whnf)) (fun w1 hw1 => hD _ _ hd w1 hw1) rfl ?_
    refine B (fun w1 hw1 => x_move (by conv => lhs; whnf)) rfl ?_
    refine BG rfl (fun w1 hw1 => x_field0 fa23_1 rfl) rfl ?_
    refine BG rfl (fun w1 hw1 => x_load ld21 rfl (hw1.2.cell 1 rfl)) rfl ?_
    refine BG rfl (fun w1 hw1 => x_bin rfl rfl (bf (beq_eq_false_iff_ne.2 (by omega)))) rfl ?_
    refine BG rfl (fun w1 hw1 => x_move (by conv => lhs; whnf)) rfl ?_
    refine BG rfl (fun w1 hw1 => x_field0 fa23_1 rfl) rfl ?_
    refine BG rfl (fun w1 hw1 => x_load ld21 rfl (hw1.2.cell 1 rfl)) rfl ?_
    refine BCG rfl (fun _ => x_call1 cf32 (by conv => lhs; whnf)) (fun w1 hw1 => hD _ _ hd2 w1 hw1) rfl ?_
    refine BG rfl (fun w1 hw1 => x_move (by conv => lhs; whnf)) rfl ?_
    refine BG rfl (fun w1 hw1 => x_field0 fa23_1 rfl) rfl ?_
    refine BG rfl (fun w1 hw1 => x_load ld21 rfl (hw1.2.cell 1 rfl)) rfl ?_
    refine BG rfl (fun w1 hw1 => x_loadA Tryd.underlying23 (cs := o.cells) szO rfl hw1.2) rfl ?_
    refine BCG rfl (fun _ => x_call1 cf33 (by conv => lhs; whnf)) (fun w1 hw1 => hC w1 hw1) rfl ?_
    refine BG rfl (fun w1 hw1 => x_bin rfl rfl (bf (bne_eq_false_iff_eq.2 (by omega)))) rfl ?_
    refine BG rfl (fun w1 hw1 => x_pick_t rfl (by conv => lhs; whnf)) rfl ?_
    refine BG rfl (fun w1 hw1 => x_pick_f rfl (by conv => lhs; whnf)) rfl ?_
    refine B (fun w1 hw1 => x_pick_t rfl (by conv => lhs; whnf)) rfl ?_
    refine B (fun w1 hw1 => x_assign (by conv => lhs; whnf)) rfl ?_
    refine BN ?_
    intro w1 hw1
    refine W_ret ?_
    repeat (with_reducible (first | refine rt ?_ | refine rb ?_))
    exact bodyE_1 rfl rfl ⟨rfl, hw1.1⟩
  · have hg : o.good = true := by simp [Opt.good, hd, hd2, hz, hq]
    rw [hg]
    conv => arg 3; whnf
    refine W_seq ?_
    refine W_region ?_
    refine V (x_box (cs := o.cells) rfl) rfl ?_
    refine V (x_assign (by conv => lhs; whnf)) rfl ?_
    refine WL_nil ?_
    refine W_seq ?_
    refine W_quiet (fun w1 => Only (fun _ => False) w w1 ∧ Blk w1 w.heap.size 23 o.cells) mixed (by kernel_rfl) ⟨hAl.trans (Only.drew _ _), hO.drew⟩ ?_
    refine B (fun w1 hw1 => x_loadA Tryd.underlying23 (cs := o.cells) szO rfl hw1.2) rfl ?_
    refine BC (fun _ => x_call1 cf33 (by conv => lhs; whnf)) (fun w1 hw1 => hC w1 hw1) rfl ?_
    refine BC (fun _ => x_call1 cf32 (by conv => lhs; whnf)) (fun w1 hw1 => hD _ _ hd w1 hw1) rfl ?_
    refine B (fun w1 hw1 => x_move (by conv => lhs; whnf)) rfl ?_
    refine BG rfl (fun w1 hw1 => x_field0 fa23_1 rfl) rfl ?_
    refine BG rfl (fun w1 hw1 => x_load ld21 rfl (hw1.2.cell 1 rfl)) rfl ?_
    refine BG rfl (fun w1 hw1 => x_bin rfl rfl (bf (beq_eq_false_iff_ne.2 (by omega)))) rfl ?_
    refine BG rfl (fun w1 hw1 => x_move (by conv => lhs; whnf)) rfl ?_
    refine BG rfl (fun w1 hw1 => x_field0 fa23_1 rfl) rfl ?_
    refine BG rfl (fun w1 hw1 => x_load ld21 rfl (hw1.2.cell 1 rfl)) rfl ?_
    refine BCG rfl (fun _ => x_call1 cf32 (by conv => lhs; whnf)) (fun w1 hw1 => hD _ _ hd2 w1 hw1) rfl ?_
    refine BG rfl (fun w1 hw1 => x_move (by conv => lhs; whnf)) rfl ?_
    refine BG rfl (fun w1 hw1 => x_field0 fa23_1 rfl) rfl ?_
    refine BG rfl (fun w1 hw1 => x_load ld21 rfl (hw1.2.cell 1 rfl)) rfl ?_
    refine BG rfl (fun w1 hw1 => x_loadA Tryd.underlying23 (cs := o.cells) szO rfl hw1.2) rfl ?_
    refine BCG rfl (fun _ => x_call1 cf33 (by conv => lhs; whnf)) (fun w1 hw1 => hC w1 hw1) rfl ?_
    refine BG rfl (fun w1 hw1 => x_bin rfl rfl (bt (bne_iff_ne.2 (by omega)))) rfl ?_
    refine BG rfl (fun w1 hw1 => x_pick_t rfl (by conv => lhs; whnf)) rfl ?_
    refine BG rfl (fun w1 hw1 => x_pick_f rfl (by conv => lhs; whnf)) rfl ?_
    refine B (fun w1 hw1 => x_pick_t rfl (by conv => lhs; whnf)) rfl ?_
    refine B (fun w1 hw1 => x_assign (by conv => lhs; whnf)) rfl ?_
    refine BN ?_
    intro w1 hw1
    refine W_ret ?_
    repeat (with_reducible (first | refine rt ?_ | refine rb ?_))
    exact bodyE_1 rfl rfl ⟨rfl, hw1.1⟩
theorem Opt.comma_ne (o : Opt) : o.comma ≠ 0 := by unfold Opt.comma; split <;> omega
theorem Opt.bad {o : Opt} (h : o.good = false) : goodB o.comma o.ct = false := by
  have h0 := o.comma_ne
  simp only [Opt.good, goodB] at *
  cases h1 : delimR o.comma
  · simp
  · rw [h1] at h
    by_cases hz : o.ct = 0
    · simp [hz] at h
    · cases h2 : delimR o.ct
      · simp [hz]
      · simp [hz, h2] at h
        simp [h]
theorem Opt.ok {o : Opt} (h : o.good = true) : delimR o.comma = true ∧ (o.ct = 0 ∨ delimR o.ct = true) ∧ o.comma ≠ o.ct := by
  have h0 := o.comma_ne
  simp only [Opt.good, Bool.and_eq_true, Bool.or_eq_true, beq_iff_eq, bne_iff_ne] at h
  refine ⟨h.1, (match h.2 with | .inl a => .inl a | .inr a => .inr a.1), ?_⟩
  rcases h.2 with h1 | h1
  · rw [h1]; exact h0
  · exact fun e => h1.2 e.symm
end Go.Proofs.YtcdhbfhijkdfoaaDoor
