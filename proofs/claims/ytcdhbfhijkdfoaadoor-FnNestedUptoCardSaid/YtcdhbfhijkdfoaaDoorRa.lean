/-
  readRecord: from its start to the first field.
-/
import Derived.Test.YtcdhbfhijkdfoaaDoorRq
namespace Go.Proofs.YtcdhbfhijkdfoaaDoor
open Go.EC Go.RowKit

/-- Options that a reader takes. -/
structure Good (x : Fld) : Prop where
  cm : delimR x.cm = true
  ct : x.ct = 0 ∨ delimR x.ct = true
  ne : x.cm ≠ x.ct
/-- Options that it does not take. -/
def goodB (cm ct : Int) : Bool := !(cm == ct) && delimR cm && (ct == 0 || delimR ct)

theorem readRecord_bad (a : Nat) (x : Fld) (dst : Value) (er : Nat → Addr) (w : World) (hC : CBlk w a x) (hG : Glob w er) (hb : goodB x.cm x.ct = false) :
    Ret Tryd.prog 41 #[.pointer (some ⟨a, 0, none⟩), dst] w fun v w' => v = .tuple #[.slice none 0 0, errV er 4] ∧ Same w w' := by
  refine ret_of_W Tryd.func41 rfl (Nat.le_of_ble_eq_true rfl) ?_
  have hG4 : (dr (dr w)).cell? ⟨4, 0, none⟩ = some (errV er 4) := hG.cell 4 (by omega)
  have hC1 := hC.drew
  by_cases h1 : x.cm = x.ct
  · skip
    refine W_seq ?_
    refine W_region ?_
    refine V (x_assign (by conv => lhs; whnf)) rfl ?_
    refine V (x_assign (by conv => lhs; whnf)) rfl ?_
    refine WL_nil ?_
    refine W_scope ?_
    refine W_seq ?_
    refine W_seq ?_
    refine W_q mixed (by kernel_rfl) ?_
    refine K (x_move (by conv => lhs; whnf)) rfl ?_
    refine K (x_nilc rfl) rfl ?_
    refine K (x_field0 fa71_0 rfl) rfl ?_
    refine K (x_load ld21 rfl ((hC1).cell 0 rfl)) rfl ?_
    refine K (x_move (by conv => lhs; whnf)) rfl ?_
    refine K (x_nilc rfl) rfl ?_
    refine K (x_field0 fa71_1 rfl) rfl ?_
    refine K (x_load ld21 rfl ((hC1).cell 1 rfl)) rfl ?_
    refine K (x_bin rfl rfl (bt (beq_iff_eq.2 (by omega)))) rfl ?_
    refine K (x_move (by conv => lhs; whnf)) rfl ?_
    refine KS rfl (by decide) rfl ?_
    refine KS rfl (by decide) rfl ?_
    refine KS rfl (by decide) rfl ?_
    refine KS rfl (by decide) rfl ?_
    refine KS rfl (by decide) rfl ?_
    refine KS rfl (by decide) rfl ?_
    refine K (x_pick_t rfl (by conv => lhs; whnf)) rfl ?_
    refine K (x_move (by conv => lhs; whnf)) rfl ?_
    refine KS rfl (by decide) rfl ?_
    refine KS rfl (by decide) rfl ?_
    refine KS rfl (by decide) rfl ?_
    refine KS rfl (by decide) rfl ?_
    refine KS rfl (by decide) rfl ?_
    refine KS rfl (by decide) rfl ?_
    refine KU rfl rfl ?_
    refine KU rfl rfl ?_
    refine KU rfl rfl ?_
    refine KU rfl rfl ?_
    refine KU rfl rfl ?_
    refine KU rfl rfl ?_
    refine KS rfl (by decide) rfl ?_
    refine K (x_pick_t rfl (by conv => lhs; whnf)) rfl ?_
    refine KN ?_
    refine W_true (rfl) ?_
    refine W_seq ?_
    refine W_q mixed (by kernel_rfl) ?_
    refine K (x_load ld55 rfl hG4) rfl ?_
    refine K (x_assign (by conv => lhs; whnf)) rfl ?_
    refine K (x_assign (by conv => lhs; whnf)) rfl ?_
    refine KN ?_
    refine W_ret ?_
    repeat (with_reducible (first | refine rt ?_ | refine rb ?_ | refine rs ?_ | refine rj ?_))
    exact bodyE_2 rfl rfl rfl ⟨rfl, (Same.drew w).dr⟩
  cases h2 : delimR x.cm
  · have hv := validDelim_ok x.cm (dr w)
    rw [h2] at hv
    refine W_seq ?_
    refine W_region ?_
    refine V (x_assign (by conv => lhs; whnf)) rfl ?_
    refine V (x_assign (by conv => lhs; whnf)) rfl ?_
    refine WL_nil ?_
    refine W_scope ?_
    refine W_seq ?_
    refine W_seq ?_
    refine W_q mixed (by kernel_rfl) ?_
    refine K (x_move (by conv => lhs; whnf)) rfl ?_
    refine K (x_nilc rfl) rfl ?_
    refine K (x_field0 fa71_0 rfl) rfl ?_
    refine K (x_load ld21 rfl ((hC1).cell 0 rfl)) rfl ?_
    refine K (x_move (by conv => lhs; whnf)) rfl ?_
    refine K (x_nilc rfl) rfl ?_
    refine K (x_field0 fa71_1 rfl) rfl ?_
    refine K (x_load ld21 rfl ((hC1).cell 1 rfl)) rfl ?_
    refine K (x_bin rfl rfl (bf (beq_eq_false_iff_ne.2 (by omega)))) rfl ?_
    refine K (x_move (by conv => lhs; whnf)) rfl ?_
    refine KG rfl (x_move (by conv => lhs; whnf)) rfl ?_
    refine KG rfl (x_nilc rfl) rfl ?_
    refine KG rfl (x_field0 fa71_0 rfl) rfl ?_
    refine KG rfl (x_load ld21 rfl ((hC1).cell 0 rfl)) rfl ?_
    refine KCG rfl (fun _ => x_call1 cf44 (by conv => lhs; whnf)) (hv) rfl ?_
    refine KG rfl (x_not rfl) rfl ?_
    refine K (x_pick_f rfl (by conv => lhs; whnf)) rfl ?_
    refine K (x_move (by conv => lhs; whnf)) rfl ?_
    refine KS rfl (by decide) rfl ?_
    refine KS rfl (by decide) rfl ?_
    refine KS rfl (by decide) rfl ?_
    refine KS rfl (by decide) rfl ?_
    refine KS rfl (by decide) rfl ?_
    refine KS rfl (by decide) rfl ?_
    refine KU rfl rfl ?_
    refine KU rfl rfl ?_
    refine KU rfl rfl ?_
    refine KU rfl rfl ?_
    refine KU rfl rfl ?_
    refine KU rfl rfl ?_
    refine KS rfl (by decide) rfl ?_
    refine K (x_pick_t rfl (by conv => lhs; whnf)) rfl ?_
    refine KN ?_
    refine W_true (rfl) ?_
    refine W_seq ?_
    refine W_q mixed (by kernel_rfl) ?_
    refine K (x_load ld55 rfl hG4) rfl ?_
    refine K (x_assign (by conv => lhs; whnf)) rfl ?_
    refine K (x_assign (by conv => lhs; whnf)) rfl ?_
    refine KN ?_
    refine W_ret ?_
    repeat (with_reducible (first | refine rt ?_ | refine rb ?_ | refine rs ?_ | refine rj ?_))
    exact bodyE_2 rfl rfl rfl ⟨rfl, (Same.drew w).dr⟩
  · have hv := validDelim_ok x.cm (dr w)
    rw [h2] at hv
    have h3 : x.ct ≠ 0 ∧ delimR x.ct = false := by
      simp [goodB, h1, h2] at hb
      exact hb
    have hv2 := validDelim_ok x.ct (dr w)
    rw [h3.2] at hv2
    have h30 := h3.1
    refine W_seq ?_
    refine W_region ?_
    refine V (x_assign (by conv => lhs; whnf)) rfl ?_
    refine V (x_assign (by conv => lhs; whnf)) rfl ?_
    refine WL_nil ?_
    refine W_scope ?_
    refine W_seq ?_
    refine W_seq ?_
    refine W_q mixed (by kernel_rfl) ?_
    refine K (x_move (by conv => lhs; whnf)) rfl ?_
    refine K (x_nilc rfl) rfl ?_
    refine K (x_field0 fa71_0 rfl) rfl ?_
    refine K (x_load ld21 rfl ((hC1).cell 0 rfl)) rfl ?_
    refine K (x_move (by conv => lhs; whnf)) rfl ?_
    refine K (x_nilc rfl) rfl ?_
    refine K (x_field0 fa71_1 rfl) rfl ?_
    refine K (x_load ld21 rfl ((hC1).cell 1 rfl)) rfl ?_
    refine K (x_bin rfl rfl (bf (beq_eq_false_iff_ne.2 (by omega)))) rfl ?_
    refine K (x_move (by conv => lhs; whnf)) rfl ?_
    refine KG rfl (x_move (by conv => lhs; whnf)) rfl ?_
    refine KG rfl (x_nilc rfl) rfl ?_
    refine KG rfl (x_field0 fa71_0 rfl) rfl ?_
    refine KG rfl (x_load ld21 rfl ((hC1).cell 0 rfl)) rfl ?_
    refine KCG rfl (fun _ => x_call1 cf44 (by conv => lhs; whnf)) (hv) rfl ?_
    refine KG rfl (x_not rfl) rfl ?_
    refine K (x_pick_f rfl (by conv => lhs; whnf)) rfl ?_
    refine K (x_move (by conv => lhs; whnf)) rfl ?_
    refine KG rfl (x_move (by conv => lhs; whnf)) rfl ?_
    refine KG rfl (x_nilc rfl) rfl ?_
    refine KG rfl (x_field0 fa71_1 rfl) rfl ?_
    refine KG rfl (x_load ld21 rfl ((hC1).cell 1 rfl)) rfl ?_
    refine KG rfl (x_bin rfl rfl (bt (bne_iff_ne.2 (by omega)))) rfl ?_
    refine KG rfl (x_move (by conv => lhs; whnf)) rfl ?_
    refine KG rfl (x_move (by conv => lhs; whnf)) rfl ?_
    refine KG rfl (x_nilc rfl) rfl ?_
    refine KG rfl (x_field0 fa71_1 rfl) rfl ?_
    refine KG rfl (x_load ld21 rfl ((hC1).cell 1 rfl)) rfl ?_
    refine KCG rfl (fun _ => x_call1 cf44 (by conv => lhs; whnf)) (hv2) rfl ?_
    refine KG rfl (x_not rfl) rfl ?_
    refine KG rfl (x_pick_t rfl (by conv => lhs; whnf)) rfl ?_
    refine K (x_pick_f rfl (by conv => lhs; whnf)) rfl ?_
    refine KN ?_
    refine W_true (rfl) ?_
    refine W_seq ?_
    refine W_q mixed (by kernel_rfl) ?_
    refine K (x_load ld55 rfl hG4) rfl ?_
    refine K (x_assign (by conv => lhs; whnf)) rfl ?_
    refine K (x_assign (by conv => lhs; whnf)) rfl ?_
    refine KN ?_
    refine W_ret ?_
    repeat (with_reducible (first | refine rt ?_ | refine rb ?_ | refine rs ?_ | refine rj ?_))
    exact bodyE_2 rfl rfl rfl ⟨rfl, (Same.drew w).dr⟩
end Go.Proofs.YtcdhbfhijkdfoaaDoor
