/-
  FnNested, for inputs of bulk at most 1048576: a table within a field of another one, and this within a field of a third one, each with another delimiter, is read back from within; the card.
-/
import Derived.Test.YtcdhbfhijkdfoaaDoorLw
import Derived.Test.YtcdhbfhijkdfoaaDoorNt
namespace Go.Proofs.YtcdhbfhijkdfoaaDoor.fnNested
open Go.EC Go.ChangeShapes Go.WideShapes Go.ChangeAt Go.RowKit
open Go.ChangeMaps (open_string shut_string)

set_option maxRecDepth 100000 in
theorem contract (H : Type) (enc : TypeId × Value → H) (W : World) (base : Nat) (args : Array Value) (ds gs : List (DataW H)) (before : List MemPlace)
    (hval : ∀ (j : Nat) t v, Tryd.f9.params[j]? = some t → args[j]? = some v → Value.okWide Tryd.prog W .any base t v)
    (hcond : Rows.uptoBulkAll (ds ++ gs) ≤ 1048576)
    (hW : DataW.Whole enc Tryd.prog Tryd.f9.params.toList Rows.fnNestedSpec.vars false W args.toList ds gs before) (hL : laidMet Tryd.prog laidL W) :
    Calls Tryd.prog 9 args W fun e W' => ∃ v, e = .returned v ∧ Rows.fnNestedSpec.post enc Tryd.prog Tryd.f9 false true false false W args v W' := by
  obtain ⟨er, hG⟩ := glob_of hL
  have hU := tabs_of hL
  have hW' := hW
  obtain ⟨p, q, hA0, hV, _, _, _⟩ := hW
  have hA : DataW.TrodAll enc Tryd.prog W 0 (fun _ => true) true [27, 38] args.toList ds p := by rw [show Tryd.f9.params.toList = [27, 38] from by rw [Tryd.params9]] at hA0; exact hA0
  rw [Tryd.params9] at hval
  obtain ⟨v0, vs0, d0, ds0, p0, q0, hargs, rfl, rfl, h0, r0⟩ := trodAll_cons hA
  obtain ⟨v1, vs1, d1, ds1, p1, q1, rfl, rfl, rfl, h1, r1⟩ := trodAll_cons r0
  obtain ⟨rfl, rfl, rfl⟩ := trodAll_nil r1
  obtain rfl : args = #[v0, v1] := by cases args; simp_all
  have hgs : gs = [] := by rw [show Rows.fnNestedSpec.vars = [] from rfl] at hV; exact (trodVars_none hV).1
  subst hgs
  obtain ⟨tbl, hR0, hB0⟩ := open_tabT (hval 0 27 v0 rfl rfl) h0
  obtain ⟨zs, hR1, hB1⟩ := open_intsT (hval 1 38 v1 rfl rfl) h1
  simp only [List.append_nil, Rows.uptoBulkAll] at hcond
  exact law_contract rfl (by rw [Tryd.params9]; simp only [List.mem_cons, List.mem_nil_iff, or_false]; rintro t (rfl | rfl) <;> exact ⟨by kernel_rfl, of_decide_eq_true (by kernel_rfl)⟩) rfl rfl hW' (nested v0 v1 tbl zs er W hG hU hR0 hR1 (by omega) (by omega))

def wit : Array Value := #[.slice none 0 0, .slice none 0 0]
theorem reads (os : Os) {H : Type} (enc : TypeId × Value → H) : ∃ places, DataW.whole enc Tryd.prog ((laidWorld os).forCall (fun _ _ => 0) ⟨#[], wit, []⟩).memory Tryd.f9.params.toList Rows.fnNestedSpec.vars false wit.toList 8 =
    some ([.nil, .nil], [], places) :=
  ⟨[], by kernel_rfl⟩

set_option maxRecDepth 100000 in
theorem lifted (os : Os) (started : os.Started) (H : Type) (enc : TypeId × Value → H) (F : Stop.Interp) :
    ReturnsInHanded {} Tryd.checked os 9 .any ((Rows.OpenSpec.upto Rows.fnNestedSpec).preRow enc Tryd.prog Tryd.f9 Rows.fnNestedUptoRow.domain false Rows.fnNestedUptoRow.laid) (((Rows.OpenSpec.upto Rows.fnNestedSpec).at F).post enc Tryd.prog Tryd.f9 false true false false) := by
  obtain ⟨places, hx⟩ := reads os enc
  refine returnsInHanded_of_row (C := Tryd.checked) (s := Rows.OpenSpec.upto Rows.fnNestedSpec) own started (by kernel_rfl) Tryd.func9
    (witness_row_atRef (enc := enc) (C := Tryd.checked) false (laidWorld os) wit rfl (wit_vars os wit) (by kernel_rfl) (by kernel_rfl)
      (OpenSpec.preRow_of_cond 8 hx (by kernel_rfl) (fun k hk => by cases hk; kernel_rfl) (by kernel_rfl) (laid_met os wit))) ?_
  intro W base args ds gs before hval hW _ hcond _ hL _ _
  exact contract H enc W base args ds gs before hval (of_decide_eq_true (hcond _ rfl)) hW hL

theorem said : Rows.FnNestedUptoSaid :=
  OpenClaim.holds_of_cond 9 Tryd.f9 rfl rfl rfl rfl rfl rfl rfl ⟨rfl, rfl, rfl, rfl, rfl⟩ rfl rfl rfl rfl rfl (by kernel_rfl) Tryd.func9 (by kernel_rfl)
    (of_decide_eq_true (by kernel_rfl)) (by unfold Func.isWrapper; first | (rw [if_pos (by decide +kernel)]; kernel_rfl) | (rw [if_neg (by decide +kernel)]; exact ⟨rfl, rfl⟩))
    (fun os started H enc _ F => by rw [OpenClaim.pre_eq_preRow]; exact lifted os started H enc F)

/-- The card. -/
theorem card : Rows.FnNestedUptoCardSaid :=
  Claim7.holds_tied_plain_at .later [] _ _ _ _ said (fun _ h => by cases h) (by kernel_rfl) (fun _ h => by cases h) fnNestedUpto_row_tie rfl ⟨rfl, rfl⟩ (by kernel_rfl) rfl
    (plain_gen (k := 9) (by kernel_rfl) Tryd.func9 (by kernel_rfl) (by kernel_rfl)) (by kernel_rfl)
#print axioms card
end Go.Proofs.YtcdhbfhijkdfoaaDoor.fnNested
