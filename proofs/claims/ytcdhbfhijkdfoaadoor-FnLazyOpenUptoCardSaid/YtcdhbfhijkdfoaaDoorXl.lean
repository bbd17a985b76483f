/-
  FnLazyOpen, for inputs of bulk at most 1048576: with lazy quotes a quoted field without an end behind a written table goes on to the end of the text; the card.
-/
import Derived.Test.YtcdhbfhijkdfoaaDoorLw
import Derived.Test.YtcdhbfhijkdfoaaDoorTl
namespace Go.Proofs.YtcdhbfhijkdfoaaDoor.fnLazyOpen
open Go.EC Go.ChangeShapes Go.WideShapes Go.ChangeAt Go.RowKit
open Go.ChangeMaps (open_string shut_string)

set_option maxRecDepth 100000 in
theorem contract (H : Type) (enc : TypeId × Value → H) (W : World) (base : Nat) (args : Array Value) (ds gs : List (DataW H)) (before : List MemPlace)
    (hval : ∀ (j : Nat) t v, Tryd.f5.params[j]? = some t → args[j]? = some v → Value.okWide Tryd.prog W .any base t v)
    (hcond : Rows.uptoBulkAll (ds ++ gs) ≤ 1048576)
    (hW : DataW.Whole enc Tryd.prog Tryd.f5.params.toList Rows.fnLazyOpenSpec.vars false W args.toList ds gs before) (hL : laidMet Tryd.prog laidL W) :
    Calls Tryd.prog 5 args W fun e W' => ∃ v, e = .returned v ∧ Rows.fnLazyOpenSpec.post enc Tryd.prog Tryd.f5 false true false false W args v W' := by
  obtain ⟨er, hG⟩ := glob_of hL
  have hU := tabs_of hL
  have hW' := hW
  obtain ⟨p, q, hA0, hV, _, _, _⟩ := hW
  have hA : DataW.TrodAll enc Tryd.prog W 0 (fun _ => true) true [27, 9, 23] args.toList ds p := by rw [show Tryd.f5.params.toList = [27, 9, 23] from by rw [Tryd.params5]] at hA0; exact hA0
  rw [Tryd.params5] at hval
  obtain ⟨v0, vs0, d0, ds0, p0, q0, hargs, rfl, rfl, h0, r0⟩ := trodAll_cons hA
  obtain ⟨v1, vs1, d1, ds1, p1, q1, rfl, rfl, rfl, h1, r1⟩ := trodAll_cons r0
  obtain ⟨v2, vs2, d2, ds2, p2, q2, rfl, rfl, rfl, h2, r2⟩ := trodAll_cons r1
  obtain ⟨rfl, rfl, rfl⟩ := trodAll_nil r2
  obtain rfl : args = #[v0, v1, v2] := by cases args; simp_all
  obtain ⟨str, rfl, hd1, _, ws⟩ := open_string Tryd.underlying9 (hval 1 9 v1 rfl rfl) h1
  subst hd1
  obtain ⟨o, rfl, _, _⟩ := open_opt (hval 2 23 v2 rfl rfl) h2
  have hgs : gs = [] := by rw [show Rows.fnLazyOpenSpec.vars = [] from rfl] at hV; exact (trodVars_none hV).1
  subst hgs
  obtain ⟨tbl, hR0, hB0⟩ := open_tabT (hval 0 27 v0 rfl rfl) h0
  simp only [List.append_nil, Rows.uptoBulkAll] at hcond
  have hstr : Rows.uptoBulk (DataW.lit (H := H) (.string str.data.toList)) = str.data.toList.length + 1 := by simp [Rows.uptoBulk]
  rw [hstr] at hcond
  rw [sv_of]
  exact law_contract rfl (by rw [Tryd.params5]; simp only [List.mem_cons, List.mem_nil_iff, or_false]; rintro t (rfl | rfl | rfl) <;> exact ⟨by kernel_rfl, of_decide_eq_true (by kernel_rfl)⟩) rfl rfl hW' (lazyOpen v0 tbl str.data.toList o er W hG hU hR0 (by omega) (by omega))

def wit : Array Value := #[.slice none 0 0, .string ByteArray.empty, .agg #[.int .i32 0, .int .i32 0, .int .i64 0, .bool false, .bool false, .bool false]]
theorem reads (os : Os) {H : Type} (enc : TypeId × Value → H) : ∃ places, DataW.whole enc Tryd.prog ((laidWorld os).forCall (fun _ _ => 0) ⟨#[], wit, []⟩).memory Tryd.f5.params.toList Rows.fnLazyOpenSpec.vars false wit.toList 8 =
    some ([.nil, .lit (.string []), .agg [.lit (.int .i32 0), .lit (.int .i32 0), .lit (.int .i64 0), .lit (.bool false), .lit (.bool false), .lit (.bool false)]], [], places) :=
  ⟨[], by kernel_rfl⟩

set_option maxRecDepth 100000 in
theorem lifted (os : Os) (started : os.Started) (H : Type) (enc : TypeId × Value → H) (F : Stop.Interp) :
    ReturnsInHanded {} Tryd.checked os 5 .any ((Rows.OpenSpec.upto Rows.fnLazyOpenSpec).preRow enc Tryd.prog Tryd.f5 Rows.fnLazyOpenUptoRow.domain false Rows.fnLazyOpenUptoRow.laid) (((Rows.OpenSpec.upto Rows.fnLazyOpenSpec).at F).post enc Tryd.prog Tryd.f5 false true false false) := by
  obtain ⟨places, hx⟩ := reads os enc
  refine returnsInHanded_of_row (C := Tryd.checked) (s := Rows.OpenSpec.upto Rows.fnLazyOpenSpec) own started (by kernel_rfl) Tryd.func5
    (witness_row_atRef (enc := enc) (C := Tryd.checked) false (laidWorld os) wit rfl (wit_vars os wit) (by kernel_rfl) (by kernel_rfl)
      (OpenSpec.preRow_of_cond 8 hx (by kernel_rfl) (fun k hk => by cases hk; kernel_rfl) (by kernel_rfl) (laid_met os wit))) ?_
  intro W base args ds gs before hval hW _ hcond _ hL _ _
  exact contract H enc W base args ds gs before hval (of_decide_eq_true (hcond _ rfl)) hW hL

theorem said : Rows.FnLazyOpenUptoSaid :=
  OpenClaim.holds_of_cond 5 Tryd.f5 rfl rfl rfl rfl rfl rfl rfl ⟨rfl, rfl, rfl, rfl, rfl⟩ rfl rfl rfl rfl rfl (by kernel_rfl) Tryd.func5 (by kernel_rfl)
    (of_decide_eq_true (by kernel_rfl)) (by unfold Func.isWrapper; first | (rw [if_pos (by decide +kernel)]; kernel_rfl) | (rw [if_neg (by decide +kernel)]; exact ⟨rfl, rfl⟩))
    (fun os started H enc _ F => by rw [OpenClaim.pre_eq_preRow]; exact lifted os started H enc F)

/-- The card. -/
theorem card : Rows.FnLazyOpenUptoCardSaid :=
  Claim7.holds_tied_plain_at .later [] _ _ _ _ said (fun _ h => by cases h) (by kernel_rfl) (fun _ h => by cases h) fnLazyOpenUpto_row_tie rfl ⟨rfl, rfl⟩ (by kernel_rfl) rfl
    (plain_gen (k := 5) (by kernel_rfl) Tryd.func5 (by kernel_rfl) (by kernel_rfl)) (by kernel_rfl)
#print axioms card
end Go.Proofs.YtcdhbfhijkdfoaaDoor.fnLazyOpen
