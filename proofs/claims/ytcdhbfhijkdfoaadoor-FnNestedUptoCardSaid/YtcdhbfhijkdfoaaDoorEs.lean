/-
  Scopes and jumps; a cut whose first part may leave.
-/
import Derived.Test.YtcdhbfhijkdfoaaDoorEb
import Derived.Scope
namespace Go.EC
def noG (Q : Exit → Env → World → Prop) : Exit → Env → World → Prop
  | .goto _, _, _ => False
  | x, e, w => Q x e w
/-- A jump to l within the scope c; other jumps go on, if c has no such label. -/
def jmp (c : Code) (l : Nat) (J : Env → World → Prop) (Q : Exit → Env → World → Prop) : Exit → Env → World → Prop
  | .goto l', e, w => (l' = l ∧ J e w) ∨ (findLabel c l' = none ∧ Q (.goto l') e w)
  | x, e, w => Q x e w
section
variable {P : Program} {n : Nat} {Q : Exit → Env → World → Prop} {e : Env} {w : World}
theorem W_cutQ {x y : Code} (Mid : Env → World → Prop) (h1 : W P n x (thn Mid Q) e w) (h2 : ∀ e w, Mid e w → W P n y Q e w) : W P n (.seq x y) Q e w :=
  W_seq (h1.mono fun ex e w hq => by cases ex <;> first | exact h2 _ _ hq | exact hq)
theorem W_goto {l : Nat} (h : Q (.goto l) e w) : W P n (.goto l) Q e w := fun _ ha => wp_goto ⟨e, ha, h⟩
theorem W_scope {c : Code} (h : W P n c (noG Q) e w) : W P n (.scope c) Q e w := fun a ha =>
  wp_scope_straight (Go.wp_mono (h a ha) fun ex a' w' ⟨e', hr, hq⟩ => by
    cases ex <;> first | exact ⟨e', hr, hq⟩ | exact hq.elim)
theorem W_jump {c rest : Code} (l : Nat) (J : Env → World → Prop) (hf : findLabel c l = some rest) (h1 : W P n c (jmp c l J Q) e w) (h2 : ∀ e w, J e w → W P n rest (jmp c l (fun _ _ => False) Q) e w) : W P n (.scope c) Q e w := by
  intro a ha b k cs
  have hg : gotoIn l (.inScope c :: k) = some (.code rest :: .inScope c :: k) := by simp [gotoIn, hf]
  have key : ∀ a e w, Rep n a e → J e w → ∃ ex a' w', lft n Q ex a' w' ∧ Arrives P (lone (b.at a (.code rest :: .inScope c :: k)) cs w) b k cs ex a' w' := by
    intro a e w hr hJ
    obtain ⟨ex, a₁, w₁, ⟨e₁, hr₁, hq⟩, harr⟩ := h2 e w hJ a hr b (.inScope c :: k) cs
    cases ex with
    | normal => exact ⟨.normal, a₁, w₁, ⟨e₁, hr₁, hq⟩, Steps.trans harr (.one step_inScope)⟩
    | exit id => exact ⟨.exit id, a₁, w₁, ⟨e₁, hr₁, hq⟩, fun k' hk => harr k' (by simp [exitTo, hk])⟩
    | goto l' =>
      rcases hq with ⟨_, hh⟩ | ⟨hn, hq⟩
      · exact hh.elim
      · exact ⟨.goto l', a₁, w₁, ⟨e₁, hr₁, hq⟩, fun k' hk => harr k' (by simp [gotoIn, hn, hk])⟩
    | ret => exact ⟨_, a₁, w₁, ⟨e₁, hr₁, hq⟩, harr⟩
    | panic ch => exact ⟨_, a₁, w₁, ⟨e₁, hr₁, hq⟩, harr⟩
    | outgrown => exact ⟨_, a₁, w₁, ⟨e₁, hr₁, hq⟩, harr⟩
  obtain ⟨ex, a₁, w₁, ⟨e₁, hr₁, hq⟩, harr⟩ := h1 a ha b (.inScope c :: k) cs
  cases ex with
  | normal => exact ⟨.normal, a₁, w₁, ⟨e₁, hr₁, hq⟩, .head step_scope (Steps.trans harr (.one step_inScope))⟩
  | exit id => exact ⟨.exit id, a₁, w₁, ⟨e₁, hr₁, hq⟩, fun k' hk => .head step_scope (harr k' (by simp [exitTo, hk]))⟩
  | goto l' =>
    rcases hq with ⟨rfl, hJ⟩ | ⟨hn, hq⟩
    · obtain ⟨e₂, a₂, w₂, hq₂, harr₂⟩ := key a₁ e₁ w₁ hr₁ hJ
      exact ⟨e₂, a₂, w₂, hq₂, .of_steps (.head step_scope (harr _ hg)) harr₂⟩
    · exact ⟨.goto l', a₁, w₁, ⟨e₁, hr₁, hq⟩, fun k' hk => .head step_scope (harr k' (by simp [gotoIn, hn, hk]))⟩
  | ret => exact ⟨_, a₁, w₁, ⟨e₁, hr₁, hq⟩, .of_steps (.one step_scope) harr⟩
  | panic ch => exact ⟨_, a₁, w₁, ⟨e₁, hr₁, hq⟩, .of_steps (.one step_scope) harr⟩
  | outgrown => exact ⟨_, a₁, w₁, ⟨e₁, hr₁, hq⟩, .of_steps (.one step_scope) harr⟩
end
section
variable {N : Env → World → Prop} {Q : Exit → Env → World → Prop} {e : Env} {w : World} {l l' id : Nat} {J : Env → World → Prop} {c : Code}
theorem rs (h : Q .ret e w) : noG Q .ret e w := h
theorem xs (h : Q (.exit id) e w) : noG Q (.exit id) e w := h
theorem ns (h : Q .normal e w) : noG Q .normal e w := h
theorem rj (h : Q .ret e w) : jmp c l J Q .ret e w := h
theorem xj (h : Q (.exit id) e w) : jmp c l J Q (.exit id) e w := h
theorem nj (h : Q .normal e w) : jmp c l J Q .normal e w := h
theorem gt (h : Q (.goto l) e w) : thn N Q (.goto l) e w := h
theorem gb (h : Q (.goto l) e w) : inB id Q (.goto l) e w := h
theorem gj (h : J e w) : jmp c l J Q (.goto l) e w := .inl ⟨rfl, h⟩
theorem gn (hn : findLabel c l' = none) (h : Q (.goto l') e w) : jmp c l J Q (.goto l') e w := .inr ⟨hn, h⟩
end
end Go.EC
