/-
  The rules for drawn regions, in short forms. No program in sight.
-/
import Derived.Test.YtcdhbfhijkdfoaaDoorEy
namespace Go.EC
open Go.RowKit
theorem rt {N : Env → World → Prop} {Q : Exit → Env → World → Prop} {e : Env} {w : World} (h : Q .ret e w) : thn N Q .ret e w := h
theorem rb {id : Nat} {Q : Exit → Env → World → Prop} {e : Env} {w : World} (h : Q .ret e w) : inB id Q .ret e w := h
theorem xt {N : Env → World → Prop} {Q : Exit → Env → World → Prop} {id : Nat} {e : Env} {w : World} (h : Q (.exit id) e w) : thn N Q (.exit id) e w := h
theorem xb {id : Nat} {Q : Exit → Env → World → Prop} {e : Env} {w : World} (h : Q .normal e w) : inB id Q (.exit id) e w := by
  simp only [inB, if_true]; exact h
theorem xn {id id' : Nat} {Q : Exit → Env → World → Prop} {e : Env} {w : World} (hne : Nat.beq id' id = false) (h : Q (.exit id') e w) : inB id Q (.exit id') e w := by
  simp only [inB]
  rw [if_neg (fun he => by subst he; simp at hne)]
  exact h
theorem nt {N : Env → World → Prop} {Q : Exit → Env → World → Prop} {e : Env} {w : World} (h : N e w) : thn N Q .normal e w := h
theorem nb {id : Nat} {Q : Exit → Env → World → Prop} {e : Env} {w : World} (h : Q .normal e w) : inB id Q .normal e w := h
theorem bt {b : Bool} (h : b = true) : some (Value.bool b) = some (.bool true) := by rw [h]
theorem bf {b : Bool} (h : b = false) : some (Value.bool b) = some (.bool false) := by rw [h]
section
variable {P : Program} {n : Nat} {ops : Array Oper} {e : Env} {w : World} {MQ : Env → Prop} {rest : List Oper}
variable {d : Nat} {op : Op} {ty : TypeId} {pos : String} {af : Array Edge} {j : Nat} {b b' : Bool} {v : Value} {w' : World} {f : FuncId} {args : Array Value}
def WQ1 (P : Program) (n : Nat) (ops : Array Oper) (M : Env → Prop) (l : List Oper) (e : Env) (w : World) : Prop := WQ P n ops (· = w) M l e
theorem W_q {id : Nat} {l : List Oper} {Q : Exit → Env → World → Prop} (hm : P.follows .mixedOrders = true) (hB : Region.lexB .any l.toArray = true)
    (h : WQ1 P n l.toArray (fun e' => Q .normal e' (dr w)) l e (dr w)) : W P n (.region id l.toArray true) Q e w :=
  W_quiet (· = (dr w)) hm hB rfl (by
    have key : ∀ (M M' : Env → Prop), (∀ e, M e → M' e) → ∀ (l' : List Oper) (a : Act), wpQuiet P l.toArray (· = (dr w)) (fun a' => ∃ e', Rep n a' e' ∧ M e') l' a → wpQuiet P l.toArray (· = (dr w)) (fun a' => ∃ e', Rep n a' e' ∧ M' e') l' a := by
      intro M M' hM l'
      induction l' with
      | nil => rintro a ⟨e', hr, hq⟩; exact ⟨e', hr, hM _ hq⟩
      | cons o l' ih =>
        intro a hq
        unfold wpQuiet at hq ⊢
        split
        · rename_i hw; rw [if_pos hw] at hq; exact Oper.quiet_mono ih hq
        · rename_i hw; rw [if_neg hw] at hq; exact ih _ hq
    exact fun a ha => key _ _ (fun e' hq w' hw' => by rw [hw']; exact hq) _ _ (h a ha))
theorem KN (h : MQ e) : WQ1 P n ops MQ [] e w := WQ_nil h
theorem K (hrun : (execOp (ev e) ⟨some d, op, ty, pos, af, none⟩).run P w = .ok (.value v) w) (hd : Nat.blt d n = true) (h : WQ1 P n ops MQ rest (upd e d v) w) : WQ1 P n ops MQ (⟨some d, op, ty, pos, af, none⟩ :: rest) e w :=
  WQ_val rfl (fun w' hw' => by rw [hw']; exact hrun) hd h
theorem KG (hy : yl ops e j = some b) (hrun : (execOp (ev e) ⟨some d, op, ty, pos, af, some (j, b)⟩).run P w = .ok (.value v) w) (hd : Nat.blt d n = true) (h : WQ1 P n ops MQ rest (upd e d v) w) : WQ1 P n ops MQ (⟨some d, op, ty, pos, af, some (j, b)⟩ :: rest) e w :=
  WQ_valG rfl hy (fun w' hw' => by rw [hw']; exact hrun) hd h
theorem KS (hy : yl ops e j = some b') (hb : b' ≠ b) (hd : Nat.blt d n = true) (h : WQ1 P n ops MQ rest (upd e d undef) w) : WQ1 P n ops MQ (⟨some d, op, ty, pos, af, some (j, b)⟩ :: rest) e w := WQ_skipG rfl hy hb hd h
theorem KU (hy : yl ops e j = none) (hd : Nat.blt d n = true) (h : WQ1 P n ops MQ rest (upd e d undef) w) : WQ1 P n ops MQ (⟨some d, op, ty, pos, af, some (j, b)⟩ :: rest) e w := WQ_skipU rfl hy hd h
theorem KC (hrun : ∀ w, (execOp (ev e) ⟨some d, op, ty, pos, af, none⟩).run P w = .ok (.enter f args) w) (hc : Ret P f args w fun u w' => u = v ∧ w = w') (hd : Nat.blt d n = true) (h : WQ1 P n ops MQ rest (upd e d v) w) :
    WQ1 P n ops MQ (⟨some d, op, ty, pos, af, none⟩ :: rest) e w :=
  WQ_call rfl hrun (fun w' hw' => by subst hw'; exact hc.mono fun u w2 ⟨h1, h2⟩ => ⟨h1, h2.symm⟩) hd h
theorem KCG (hy : yl ops e j = some b) (hrun : ∀ w, (execOp (ev e) ⟨some d, op, ty, pos, af, some (j, b)⟩).run P w = .ok (.enter f args) w) (hc : Ret P f args w fun u w' => u = v ∧ w = w') (hd : Nat.blt d n = true) (h : WQ1 P n ops MQ rest (upd e d v) w) :
    WQ1 P n ops MQ (⟨some d, op, ty, pos, af, some (j, b)⟩ :: rest) e w :=
  WQ_callG rfl hy hrun (fun w' hw' => by subst hw'; exact hc.mono fun u w2 ⟨h1, h2⟩ => ⟨h1, h2.symm⟩) hd h

/-! A class of worlds (w': whatever has come since). -/
variable {C : World → Prop}
theorem BN (h : MQ e) : WQ P n ops C MQ [] e := WQ_nil h
theorem B (hrun : ∀ w', C w' → (execOp (ev e) ⟨some d, op, ty, pos, af, none⟩).run P w' = .ok (.value v) w') (hd : Nat.blt d n = true) (h : WQ P n ops C MQ rest (upd e d v)) : WQ P n ops C MQ (⟨some d, op, ty, pos, af, none⟩ :: rest) e := WQ_val rfl hrun hd h
theorem BG (hy : yl ops e j = some b) (hrun : ∀ w', C w' → (execOp (ev e) ⟨some d, op, ty, pos, af, some (j, b)⟩).run P w' = .ok (.value v) w') (hd : Nat.blt d n = true) (h : WQ P n ops C MQ rest (upd e d v)) :
    WQ P n ops C MQ (⟨some d, op, ty, pos, af, some (j, b)⟩ :: rest) e := WQ_valG rfl hy hrun hd h
theorem BS (hy : yl ops e j = some b') (hb : b' ≠ b) (hd : Nat.blt d n = true) (h : WQ P n ops C MQ rest (upd e d undef)) : WQ P n ops C MQ (⟨some d, op, ty, pos, af, some (j, b)⟩ :: rest) e := WQ_skipG rfl hy hb hd h
theorem BU (hy : yl ops e j = none) (hd : Nat.blt d n = true) (h : WQ P n ops C MQ rest (upd e d undef)) : WQ P n ops C MQ (⟨some d, op, ty, pos, af, some (j, b)⟩ :: rest) e := WQ_skipU rfl hy hd h
theorem BC (hrun : ∀ w, (execOp (ev e) ⟨some d, op, ty, pos, af, none⟩).run P w = .ok (.enter f args) w) (hc : ∀ w', C w' → Ret P f args w' fun u w'' => u = v ∧ C w'') (hd : Nat.blt d n = true) (h : WQ P n ops C MQ rest (upd e d v)) :
    WQ P n ops C MQ (⟨some d, op, ty, pos, af, none⟩ :: rest) e := WQ_call rfl hrun hc hd h
theorem BCG (hy : yl ops e j = some b) (hrun : ∀ w, (execOp (ev e) ⟨some d, op, ty, pos, af, some (j, b)⟩).run P w = .ok (.enter f args) w) (hc : ∀ w', C w' → Ret P f args w' fun u w'' => u = v ∧ C w'') (hd : Nat.blt d n = true) (h : WQ P n ops C MQ rest (upd e d v)) :
    WQ P n ops C MQ (⟨some d, op, ty, pos, af, some (j, b)⟩ :: rest) e := WQ_callG rfl hy hrun hc hd h

/-! Regions with writes: one operation after the other is taken. -/
variable {M : Env → World → Prop} {fuel i : Nat} {listed listed' : Array Bool}
theorem D_pure (hs : Region.noSelect ops = true) (hf : Region.free .any ops listed i = true) (hr : (Region.ready .any ops listed).contains i = true) (ho : ops[i]? = some ⟨some d, op, ty, pos, af, none⟩) (hl : listed.setIfInBounds i true = listed')
    (hrun : ∀ w, (execOp (ev e) ⟨some d, op, ty, pos, af, none⟩).run P w = .ok (.value v) w) (hd : Nat.blt d n = true) (h : WA P n ops M fuel listed' (upd e d v) w) : WA P n ops M (fuel + 1) listed e w := WA_pure hs hf hr ho hl rfl hrun hd h
theorem D_still (hs : Region.noSelect ops = true) (hf : freeB ops listed i = true) (hr : (Region.ready .any ops listed).contains i = true) (ho : ops[i]? = some ⟨some d, op, ty, pos, af, none⟩) (hl : listed.setIfInBounds i true = listed')
    (hrun : ∀ w', Grew w w' → (execOp (ev e) ⟨some d, op, ty, pos, af, none⟩).run P w' = .ok (.value v) w') (hd : Nat.blt d n = true) (h : WA P n ops M fuel listed' (upd e d v) w) : WA P n ops M (fuel + 1) listed e w := WA_still hs hf hr ho hl rfl hrun hd h
theorem D_stillC (hs : Region.noSelect ops = true) (hf : freeB ops listed i = true) (hr : (Region.ready .any ops listed).contains i = true) (ho : ops[i]? = some ⟨some d, op, ty, pos, af, none⟩) (hl : listed.setIfInBounds i true = listed')
    (hrun : ∀ w', (execOp (ev e) ⟨some d, op, ty, pos, af, none⟩).run P w' = .ok (.enter f args) w') (hcall : ∀ w', Grew w w' → Ret P f args w' fun u w'' => u = v ∧ w' = w'') (hd : Nat.blt d n = true) (h : WA P n ops M fuel listed' (upd e d v) w) :
    WA P n ops M (fuel + 1) listed e w := WA_stillC hs hf hr ho hl rfl hrun hcall hd h
theorem D_one (hr : Region.ready .any ops listed = [i]) (ho : ops[i]? = some ⟨some d, op, ty, pos, af, none⟩) (hl : listed.setIfInBounds i true = listed')
    (hrun : (execOp (ev e) ⟨some d, op, ty, pos, af, none⟩).run P w = .ok (.value v) w') (hd : Nat.blt d n = true) (h : WA P n ops M fuel listed' (upd e d v) w') : WA P n ops M (fuel + 1) listed e w := WA_one hr ho hl rfl hrun hd h
theorem D_oneS (hr : Region.ready .any ops listed = [i]) (ho : ops[i]? = some ⟨none, op, ty, pos, af, none⟩) (hl : listed.setIfInBounds i true = listed')
    (hrun : (execOp (ev e) ⟨none, op, ty, pos, af, none⟩).run P w = .ok .skip w') (h : WA P n ops M fuel listed' e w') : WA P n ops M (fuel + 1) listed e w := WA_oneS hr ho hl rfl hrun rfl h
theorem D_oneC (hr : Region.ready .any ops listed = [i]) (ho : ops[i]? = some ⟨some d, op, ty, pos, af, none⟩) (hl : listed.setIfInBounds i true = listed')
    (hrun : (execOp (ev e) ⟨some d, op, ty, pos, af, none⟩).run P w = .ok (.enter f args) w') (hd : Nat.blt d n = true) (h : Ret P f args w' fun v w'' => WA P n ops M fuel listed' (upd e d v) w'') : WA P n ops M (fuel + 1) listed e w := WA_oneC hr ho hl rfl hrun hd h
theorem D_oneE {R : Value → World → Prop} (hr : Region.ready .any ops listed = [i]) (ho : ops[i]? = some ⟨some d, op, ty, pos, af, none⟩) (hl : listed.setIfInBounds i true = listed')
    (hex : ∃ v w', (execOp (ev e) ⟨some d, op, ty, pos, af, none⟩).run P w = .ok (.value v) w' ∧ R v w') (hd : Nat.blt d n = true) (h : ∀ v w', R v w' → WA P n ops M fuel listed' (upd e d v) w') : WA P n ops M (fuel + 1) listed e w := by
  obtain ⟨v, w', hrun, hR⟩ := hex
  exact WA_one hr ho hl rfl hrun hd (h v w' hR)
theorem VE {R : Value → World → Prop} {Q : Exit → Env → World → Prop} (hex : ∃ v w', (execOp (ev e) ⟨some d, op, ty, pos, af, none⟩).run P w = .ok (.value v) w' ∧ R v w') (hd : Nat.blt d n = true) (h : ∀ v w', R v w' → WL P n ops Q rest (upd e d v) w') :
    WL P n ops Q (⟨some d, op, ty, pos, af, none⟩ :: rest) e w := by
  obtain ⟨v, w', hrun, hR⟩ := hex
  exact V hrun hd (h v w' hR)
end
end Go.EC
