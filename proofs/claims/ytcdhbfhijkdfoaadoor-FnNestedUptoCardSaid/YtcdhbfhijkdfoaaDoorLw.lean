/-
  What every law's row asks once its walk is done: the arguments read as before, the result is true, only new memory. And options that came in.
-/
import Derived.Test.YtcdhbfhijkdfoaaDoorWi
namespace Go.Proofs.YtcdhbfhijkdfoaaDoor
open Go.EC Go.ChangeShapes Go.WideShapes Go.ChangeAt Go.RowKit
section
variable {H : Type} {enc : TypeId × Value → H}
theorem trodAll_stays {W W' : World} (hb : Below W.heap.size W W') (sp : Nat → Bool) : ∀ {ts : List TypeId} {vs : List Value} {ds : List (DataW H)} {ps : List MemPlace}, (∀ t ∈ ts, Tryd.prog.readableRec t = true ∧ t < Tryd.prog.types.size) →
    DataW.TrodAll enc Tryd.prog W 0 (fun _ => true) true ts vs ds ps → (∀ x ∈ ps, x.block < W.heap.size) → (∀ p ∈ ps, sp p.block = true) → DataW.TrodAll enc Tryd.prog W' 0 sp true ts vs ds ps
  | [], [], [], _, _, h, _, _ => h
  | t :: ts, v :: vs, d :: ds, ps, hr, h, hlt, hs => by
    obtain ⟨p, q, h1, h2, rfl⟩ := h
    obtain ⟨h3, h4⟩ := hr t (by simp)
    exact ⟨p, q, WideElems.Trod_stays laidOut h3 h4 h1 (fun x hx => hb.same (hlt x (List.mem_append.2 (.inl hx)))) (fun x hx => hs x (List.mem_append.2 (.inl hx))),
      trodAll_stays hb sp (fun t ht => hr t (by simp [ht])) h2 (fun x hx => hlt x (List.mem_append.2 (.inr hx))) (fun x hx => hs x (List.mem_append.2 (.inr hx))), rfl⟩
  | [], _ :: _, _, _, _, h, _, _ => by cases h
  | [], [], _ :: _, _, _, h, _, _ => by cases h
  | _ :: _, [], _, _, _, h, _, _ => by cases h
  | _ :: _, _ :: _, [], _, _, h, _, _ => by cases h
set_option maxRecDepth 100000 in
theorem law_post {f : Func} {s : ChangeSpec} {W W' : World} {args : Array Value} {ds : List (DataW H)} {before : List MemPlace} (hres : f.resultTypes = #[4]) (hr : ∀ t ∈ f.params.toList, Tryd.prog.readableRec t = true ∧ t < Tryd.prog.types.size)
    (hv : s.vars = []) (hfn : s.fn H ds = { results := [.lit (.bool true)], args := ds }) (hW : DataW.Whole enc Tryd.prog f.params.toList s.vars false W args.toList ds [] before) (ho : Only (fun _ => False) W W') :
    s.post enc Tryd.prog f false true false false W args (.bool true) W' := by
  have hlt : ∀ x ∈ before, x.block < W.heap.size := fun x hx => hW.lt x hx
  have hW' := hW
  obtain ⟨p, q, hA, hV, rfl, _, _⟩ := hW
  rw [hv] at hV
  obtain ⟨_, rfl⟩ := trodVars_none hV
  have hb : Below W.heap.size W W' := ho.below (fun _ h => h.elim) (Nat.le_refl _)
  simp only [List.append_nil] at hlt hW'
  have hfn' : s.fn H (ds ++ []) = { results := [.lit (.bool true)], args := ds } := by rw [List.append_nil]; exact hfn
  refine post_of_only (pa := p) (pv := []) hW' ?_ ?_ ?_ (by simp) ho ?_
  · intro b sp hd
    rw [hfn', hres]
    exact trodAll_cons_mk (shut_bool Tryd.underlying4 _) trodAll_mk0
  · intro sp hsp
    rw [hfn']
    exact trodAll_stays hb sp hr hA hlt hsp
  · intro sp _
    rw [hfn', hv]
    rfl
  · exact ok_one hres rfl (okWide_bool_mk Tryd.underlying4 _)
/-- A law's contract: what its walk has to give. -/
theorem law_contract {f : FuncId} {fn : Func} {s : ChangeSpec} {W : World} {args : Array Value} {ds gs : List (DataW H)} {before : List MemPlace} (hres : fn.resultTypes = #[4]) (hr : ∀ t ∈ fn.params.toList, Tryd.prog.readableRec t = true ∧ t < Tryd.prog.types.size)
    (hv : s.vars = []) (hfn : s.fn H ds = { results := [.lit (.bool true)], args := ds }) (hW : DataW.Whole enc Tryd.prog fn.params.toList s.vars false W args.toList ds gs before)
    (walk : Ret Tryd.prog f args W fun v w' => v = .bool true ∧ Only (fun _ => False) W w') :
    Calls Tryd.prog f args W fun e W' => ∃ v, e = .returned v ∧ s.post enc Tryd.prog fn false true false false W args v W' := by
  have hg : gs = [] := by
    obtain ⟨p, q, hA, hV, _, _, _⟩ := hW
    rw [hv] at hV
    exact (trodVars_none hV).1
  subst hg
  exact Calls.mono walk fun e W' ⟨v, he, hv1, ho⟩ => ⟨v, he, by subst hv1; exact law_post hres hr hv hfn hW ho⟩

theorem cellsOpt : Tryd.prog.cellsOf 23 = 6 ∧ Tryd.prog.cellsOf 21 = 1 ∧ Tryd.prog.cellsOf 3 = 1 ∧ Tryd.prog.cellsOf 4 = 1 := ⟨by kernel_rfl, by kernel_rfl, by kernel_rfl, by kernel_rfl⟩
set_option maxRecDepth 100000 in
theorem undOpt : ∃ f0 f1 f2 f3 f4 f5 : Field, Tryd.prog.underlying 23 = some (.struct #[f0, f1, f2, f3, f4, f5]) ∧ (f0.type = 21 ∧ f0.offset = 0) ∧ (f1.type = 21 ∧ f1.offset = 1) ∧ (f2.type = 3 ∧ f2.offset = 2) ∧ (f3.type = 4 ∧ f3.offset = 3) ∧ (f4.type = 4 ∧ f4.offset = 4) ∧ (f5.type = 4 ∧ f5.offset = 5) :=
  ⟨_, _, _, _, _, _, Tryd.underlying23, ⟨rfl, rfl⟩, ⟨rfl, rfl⟩, ⟨rfl, rfl⟩, ⟨rfl, rfl⟩, ⟨rfl, rfl⟩, ⟨rfl, rfl⟩⟩
theorem array6 {α : Type} {cs : Array α} (h : cs.size = 6) : ∃ c0 c1 c2 c3 c4 c5, cs = #[c0, c1, c2, c3, c4, c5] := by
  obtain ⟨l⟩ := cs
  match l, h with
  | [c0, c1, c2, c3, c4, c5], _ => exact ⟨c0, c1, c2, c3, c4, c5, rfl⟩
set_option maxRecDepth 100000 in
theorem open_opt {W : World} {r : Reach} {b0 base : Nat} {sp : Nat → Bool} {hd : Bool} {v : Value} {d : DataW H} {p : List MemPlace} (hv : Value.okWide Tryd.prog W r b0 23 v) (h : DataW.Trod enc Tryd.prog W base sp hd 23 v d p) :
    ∃ o : Opt, v = .agg o.cells.toArray ∧ (Lit.int .i32 o.cm).wf = true ∧ (Lit.int .i32 o.ct).wf = true := by
  obtain ⟨f0, f1, f2, f3, f4, f5, hs, ⟨t0, o0⟩, ⟨t1, o1⟩, ⟨t2, o2⟩, ⟨t3, o3⟩, ⟨t4, o4⟩, ⟨t5, o5⟩⟩ := undOpt
  obtain ⟨k23, k21, k3, k4⟩ := cellsOpt
  obtain ⟨cs, rfl, hsz⟩ := okWide_struct hs hv
  obtain ⟨c0, c1, c2, c3, c4, c5, rfl⟩ := array6 (hsz.trans k23)
  obtain ⟨fuel, hf⟩ := h
  obtain ⟨xs, n, _, _, _, hlen, hx⟩ := DataW.trod_struct hs hf
  have g : ∀ (i : Nat) (f : Field), (#[f0, f1, f2, f3, f4, f5] : Array Field)[i]? = some f → ∃ y, DataW.trod enc Tryd.prog W base sp hd n f.type (([c0, c1, c2, c3, c4, c5].drop f.offset).take (Tryd.prog.cellsOf f.type)) = some y := fun i f hi => by
    have hi2 : i < xs.length := by rw [hlen]; exact (Array.getElem?_eq_some_iff.1 hi).1
    exact ⟨xs[i], (hx i f hi).trans (List.getElem?_eq_getElem hi2)⟩
  obtain ⟨_, g0⟩ := g 0 f0 rfl
  obtain ⟨_, g1⟩ := g 1 f1 rfl
  obtain ⟨_, g2⟩ := g 2 f2 rfl
  obtain ⟨_, g3⟩ := g 3 f3 rfl
  obtain ⟨_, g4⟩ := g 4 f4 rfl
  obtain ⟨_, g5⟩ := g 5 f5 rfl
  rw [t0, o0, k21] at g0
  rw [t1, o1, k21] at g1
  rw [t2, o2, k3] at g2
  rw [t3, o3, k4] at g3
  rw [t4, o4, k4] at g4
  rw [t5, o5, k4] at g5
  obtain ⟨z0, e0, _, w0⟩ := DataW.trod_int Tryd.underlying21 g0
  obtain ⟨z1, e1, _, w1⟩ := DataW.trod_int Tryd.underlying21 g1
  obtain ⟨z2, e2, _, _⟩ := DataW.trod_int Tryd.underlying3 g2
  obtain ⟨b3, e3, _⟩ := DataW.trod_bool Tryd.underlying4 g3
  obtain ⟨b4, e4, _⟩ := DataW.trod_bool Tryd.underlying4 g4
  obtain ⟨b5, e5, _⟩ := DataW.trod_bool Tryd.underlying4 g5
  simp at e0 e1 e2 e3 e4 e5
  subst e0 e1 e2 e3 e4 e5
  exact ⟨⟨z0, z1, z2, b3, b4, b5⟩, rfl, w0, w1⟩
end
/-- What a card asks of a law's parameters. -/
theorem plain_gen {nm : String} {k : Nat} {fk : Func} (h1 : Tryd.prog.funcNamed nm = some k) (h2 : Tryd.prog.funcs[k]? = some fk) {b : Bool} (h3 : Tryd.prog.looks [] = b) (h4 : fk.params.toList.all (fun t => !Tryd.prog.wantsStandIn t) = true) (f : FuncId) (fn : Func) (hf : Tryd.pinned.checked.prog.funcNamed nm = some f) (hfn : Tryd.pinned.checked.prog.funcs[f]? = some fn) :
    b = Tryd.pinned.checked.prog.looks [] ∧ ∀ (j : Nat) t, fn.params[j]? = some t → Tryd.pinned.checked.prog.wantsStandIn t = false := by
  obtain rfl : f = k := Option.some.inj (h1.symm.trans hf) |>.symm
  obtain rfl : fn = fk := (Option.some.inj (h2.symm.trans hfn)).symm
  refine ⟨h3.symm, fun j t ht => ?_⟩
  have := List.all_eq_true.1 h4 t (by simpa using Array.mem_of_getElem? ht)
  show Tryd.prog.wantsStandIn t = false
  simpa using this
end Go.Proofs.YtcdhbfhijkdfoaaDoor
