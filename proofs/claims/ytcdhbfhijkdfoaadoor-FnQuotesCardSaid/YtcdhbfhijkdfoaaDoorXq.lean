/-
  FnQuotes: twice as many quotes, and two, are a field of so many quotes, for every number and all options; the card.
-/
import Derived.Test.YtcdhbfhijkdfoaaDoorLw
import Derived.Test.YtcdhbfhijkdfoaaDoorTq
namespace Go.Proofs.YtcdhbfhijkdfoaaDoor.fnQuotes
open Go.EC Go.ChangeShapes Go.WideShapes Go.ChangeAt Go.RowKit
open Go.ChangeMaps (open_string shut_string)

set_option maxRecDepth 100000 in
theorem contract (H : Type) (enc : TypeId × Value → H) (W : World) (base : Nat) (args : Array Value) (ds gs : List (DataW H)) (before : List MemPlace)
    (hval : ∀ (j : Nat) t v, Tryd.f10.params[j]? = some t → args[j]? = some v → Value.okWide Tryd.prog W .any base t v)
    (hW : DataW.Whole enc Tryd.prog Tryd.f10.params.toList Rows.fnQuotesSpec.vars false W args.toList ds gs before) (hL : laidMet Tryd.prog laidL W) :
    Calls Tryd.prog 10 args W fun e W' => ∃ v, e = .returned v ∧ Rows.fnQuotesSpec.post enc Tryd.prog Tryd.f10 false true false false W args v W' := by
  obtain ⟨er, hG⟩ := glob_of hL
  have hU := tabs_of hL
  have hW' := hW
  obtain ⟨p, q, hA0, hV, _, _, _⟩ := hW
  have hA : DataW.TrodAll enc Tryd.prog W 0 (fun _ => true) true [3, 23] args.toList ds p := by rw [show Tryd.f10.params.toList = [3, 23] from by rw [Tryd.params10]] at hA0; exact hA0
  rw [Tryd.params10] at hval
  obtain ⟨v0, vs0, d0, ds0, p0, q0, hargs, rfl, rfl, h0, r0⟩ := trodAll_cons hA
  obtain ⟨v1, vs1, d1, ds1, p1, q1, rfl, rfl, rfl, h1, r1⟩ := trodAll_cons r0
  obtain ⟨rfl, rfl, rfl⟩ := trodAll_nil r1
  obtain rfl : args = #[v0, v1] := by cases args; simp_all
  obtain ⟨z, rfl, _, _, _⟩ := open_int Tryd.underlying3 (hval 0 3 v0 rfl rfl) h0
  obtain ⟨o, rfl, _, _⟩ := open_opt (hval 1 23 v1 rfl rfl) h1
  exact law_contract rfl (by rw [Tryd.params10]; simp only [List.mem_cons, List.mem_nil_iff, or_false]; rintro t (rfl | rfl) <;> exact ⟨by kernel_rfl, of_decide_eq_true (by kernel_rfl)⟩) rfl rfl hW' (quotes z o er W hG hU)

def wit : Array Value := #[.int .i64 0, .agg #[.int .i32 0, .int .i32 0, .int .i64 0, .bool false, .bool false, .bool false]]
theorem reads (os : Os) {H : Type} (enc : TypeId × Value → H) : ∃ places, DataW.whole enc Tryd.prog ((laidWorld os).forCall (fun _ _ => 0) ⟨#[], wit, []⟩).memory Tryd.f10.params.toList Rows.fnQuotesSpec.vars false wit.toList 8 =
    some ([.lit (.int .i64 0), .agg [.lit (.int .i32 0), .lit (.int .i32 0), .lit (.int .i64 0), .lit (.bool false), .lit (.bool false), .lit (.bool false)]], [], places) :=
  ⟨[], by kernel_rfl⟩

set_option maxRecDepth 100000 in
theorem lifted (os : Os) (started : os.Started) (H : Type) (enc : TypeId × Value → H) (F : Stop.Interp) :
    ReturnsInHanded {} Tryd.checked os 10 .any ((OpenSpec.ofChange Rows.fnQuotesSpec).preRow enc Tryd.prog Tryd.f10 Rows.fnQuotesRow.domain false Rows.fnQuotesRow.laid) (((OpenSpec.ofChange Rows.fnQuotesSpec).at F).post enc Tryd.prog Tryd.f10 false true false false) := by
  obtain ⟨places, hx⟩ := reads os enc
  refine returnsInHanded_of_row (C := Tryd.checked) (s := OpenSpec.ofChange Rows.fnQuotesSpec) own started (by kernel_rfl) Tryd.func10
    (witness_row_atRef (enc := enc) (C := Tryd.checked) false (laidWorld os) wit rfl (wit_vars os wit) (by kernel_rfl) (by kernel_rfl)
      (OpenSpec.preRow_of_cond 8 hx (by kernel_rfl) (fun k hk => by cases hk) (by kernel_rfl) (laid_met os wit))) ?_
  intro W base args ds gs before hval hW _ _ _ hL _ _
  exact contract H enc W base args ds gs before hval hW hL

theorem said : Rows.FnQuotesSaid :=
  OpenClaim.holds_of_cond 10 Tryd.f10 rfl rfl rfl rfl rfl rfl rfl ⟨rfl, rfl, rfl, rfl, rfl⟩ rfl rfl rfl rfl rfl (by kernel_rfl) Tryd.func10 (by kernel_rfl)
    (of_decide_eq_true (by kernel_rfl)) (by unfold Func.isWrapper; first | (rw [if_pos (by decide +kernel)]; kernel_rfl) | (rw [if_neg (by decide +kernel)]; exact ⟨rfl, rfl⟩))
    (fun os started H enc _ F => by rw [OpenClaim.pre_eq_preRow]; exact lifted os started H enc F)

/-- The card. -/
theorem card : Rows.FnQuotesCardSaid :=
  Claim7.holds_tied_plain_at .later [] _ _ _ _ said (fun _ h => by cases h) (by kernel_rfl) (fun _ h => by cases h) fnQuotes_row_tie rfl ⟨rfl, rfl⟩ (by kernel_rfl) rfl
    (plain_gen (k := 10) (by kernel_rfl) Tryd.func10 (by kernel_rfl) (by kernel_rfl)) (by kernel_rfl)
#print axioms card
end Go.Proofs.YtcdhbfhijkdfoaaDoor.fnQuotes
