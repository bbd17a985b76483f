/-
  errors.Is of two package-level errors that differ, and impl.kind.
-/
import Derived.Test.YtcdhbfhijkdfoaaDoorRa
import Derived.Test.YtcdhbfhijkdfoaaDoorNr
namespace Go.Proofs.YtcdhbfhijkdfoaaDoor
open Go.EC Go.RowKit
noncomputable def rtV : Value := .iface 109 (.agg #[typeHandle Tryd.prog 143])
theorem typeOf_run (p : Addr) (w : World) : (callFunc 54 #[.iface 143 (.pointer (some p))]).run Tryd.prog w = .ok (.value rtV) w := by kernel_rfl
theorem comp_run (w : World) : (callMethod rtV "Comparable" #[]).run Tryd.prog w = .ok (.value (.bool true)) w := by kernel_rfl
theorem least_some {l : List String} (h : l ≠ []) : ∃ m, Instr.least l = some m := by
  cases l with
  | nil => exact absurd rfl h
  | cons a l => exact ⟨_, rfl⟩
theorem both_nil {l : List String} (p : String → Bool) (h1 : l.filter p = []) (h2 : l.filter (not ∘ p) = []) : l = [] := by
  cases l with
  | nil => rfl
  | cons a l =>
    cases ha : p a
    · rw [List.filter_cons, if_pos (by simp [ha])] at h2; cases h2
    · rw [List.filter_cons, if_pos ha] at h1; cases h1
theorem missing_some {want : Array (String × TypeId)} {got : Array Method} (h : (want.toList.filter fun (p : String × TypeId) => !got.any fun m => m.name == p.1 && m.sig == p.2) ≠ []) : ∃ m, Instr.missingMethod want got = some m := by
  unfold Instr.missingMethod
  have h' : ((want.toList.filter fun (p : String × TypeId) => !got.any fun m => m.name == p.1 && m.sig == p.2).map (·.1)) ≠ [] := by simpa using h
  generalize ((want.toList.filter fun (p : String × TypeId) => !got.any fun m => m.name == p.1 && m.sig == p.2).map (·.1)) = l at h'
  show ∃ m, (Instr.least (l.partition (·.contains (Char.ofNat 46))).2 <|> Instr.least ((l.partition (·.contains (Char.ofNat 46))).1.map fun id => (id.splitOn ".").getLastD id)) = some m
  rw [List.partition_eq_filter_filter]
  by_cases h2 : l.filter (not ∘ (·.contains (Char.ofNat 46))) = []
  · have h3 : l.filter (·.contains (Char.ofNat 46)) ≠ [] := fun h3 => h' (both_nil _ h3 h2)
    obtain ⟨m, hm⟩ := least_some (l := (l.filter (·.contains (Char.ofNat 46))).map fun id => (id.splitOn ".").getLastD id) (by simpa using h3)
    refine ⟨m, ?_⟩
    simp only [h2, hm]
    rfl
  · obtain ⟨m, hm⟩ := least_some h2
    exact ⟨m, by simp only [hm]; rfl⟩
theorem ta_no {P : Program} {t xt at_ : TypeId} {v z : Value} {want : Array (String × TypeId)} {i : TypeInfo} (hu : P.underlying at_ = some (.interface want)) (hi : P.info? t = some i) (hm : (want.toList.filter fun (p : String × TypeId) => !i.methods.any fun m => m.name == p.1 && m.sig == p.2) ≠ []) (hz : ∀ w, (zeroValue at_).run P w = .ok z w) (w : World) :
    (Instr.typeAssert (.iface t v) xt at_ true).run P w = .ok (.tuple #[z, .bool false]) w := by
  obtain ⟨m, hm⟩ := missing_some hm
  have hti : (typeInfo t).run P w = .ok i w := by simp [typeInfo, Sem.run_bind, hi]
  simp [Instr.typeAssert, Sem.run_bind, run_underlying hu, hti, hm, hz]
theorem esInfo : ∃ i, Tryd.prog.info? 143 = some i ∧ ∀ nm sg, (nm = "Is" ∨ nm = "Unwrap") → (i.methods.any fun m => m.name == nm && m.sig == sg) = false := by
  have h : (Tryd.prog.info? 143).map (fun i => i.methods.toList.map (·.name)) = some ["Error"] := by kernel_rfl
  obtain ⟨i, hi, h2⟩ := Option.map_eq_some_iff.1 h
  refine ⟨i, hi, fun nm sg hn => ?_⟩
  rw [← Array.any_toList, List.any_eq_false]
  intro m hm hh
  have hmem : m.name ∈ i.methods.toList.map (·.name) := List.mem_map_of_mem hm
  rw [h2] at hmem
  simp at hmem hh
  rw [hmem] at hh
  rcases hn with rfl | rfl <;> simp at hh
theorem z111 (w : World) : (zeroValue 111).run Tryd.prog w = .ok .nilIface w := by kernel_rfl
theorem z114 (w : World) : (zeroValue 114).run Tryd.prog w = .ok .nilIface w := by kernel_rfl
theorem z116 (w : World) : (zeroValue 116).run Tryd.prog w = .ok .nilIface w := by kernel_rfl
theorem ta111 (v : Value) (w : World) : (Instr.typeAssert (.iface 143 v) 55 111 true).run Tryd.prog w = .ok (.tuple #[.nilIface, .bool false]) w := by
  obtain ⟨i, hi, hn⟩ := esInfo
  exact ta_no Tryd.underlying111 hi (by simp [hn]) z111 w
theorem ta114 (v : Value) (w : World) : (Instr.typeAssert (.iface 143 v) 55 114 true).run Tryd.prog w = .ok (.tuple #[.nilIface, .bool false]) w := by
  obtain ⟨i, hi, hn⟩ := esInfo
  exact ta_no Tryd.underlying114 hi (by simp [hn]) z114 w
theorem ta116 (v : Value) (w : World) : (Instr.typeAssert (.iface 143 v) 55 116 true).run Tryd.prog w = .ok (.tuple #[.nilIface, .bool false]) w := by
  obtain ⟨i, hi, hn⟩ := esInfo
  exact ta_no Tryd.underlying116 hi (by simp [hn]) z116 w
theorem isLow (er : Nat → Addr) (k : Nat) (hk : k = 1 ∨ k = 2 ∨ k = 3) (w : World) (hG : Glob w er) : Ret Tryd.prog 55 #[errV er 4, errV er k, .bool true] w fun v w' => v = .bool false ∧ w = w' := by
  refine ret_of_W Tryd.func55 rfl (Nat.le_of_ble_eq_true rfl) ?_
  obtain ⟨t4, cs4, hb4⟩ := hG.lt 4 (by omega)
  obtain ⟨tk, csk, hbk⟩ := hG.lt k (by omega)
  have hne : er 4 ≠ er k := fun hh => by
    have := hG.inj 4 k (by omega) (by omega) (by simpa using hh)
    omega
  refine W_seq ?_
  refine W_region ?_
  refine V (x_assign (by conv => lhs; whnf)) rfl ?_
  refine WL_nil ?_
  refine W_block ?_
  refine W_once ?_
  refine W_block ?_
  refine W_seq ?_
  refine W_seq ?_
  refine W_region ?_
  refine V (x_move (by conv => lhs; whnf)) rfl ?_
  refine V (x_move (by conv => lhs; whnf)) rfl ?_
  refine VG rfl (x_move (by conv => lhs; whnf)) rfl ?_
  refine VG rfl (x_move (by conv => lhs; whnf)) rfl ?_
  refine VG rfl (x_eql_other Tryd.underlying55 ptrE rfl rfl hne hb4 hbk) rfl ?_
  refine V (x_pick_t rfl (by conv => lhs; whnf)) rfl ?_
  refine WL_nil ?_
  refine W_false (rfl) ?_
  refine W_skip ?_
  refine W_seq ?_
  refine W_seq ?_
  refine W_region ?_
  refine V (x_move (by conv => lhs; whnf)) rfl ?_
  refine V (x_tassert rfl (ta111 _)) rfl ?_
  refine V (x_move (by conv => lhs; whnf)) rfl ?_
  refine V (x_extract rfl rfl) rfl ?_
  refine V (x_extract rfl rfl) rfl ?_
  refine V (x_assign (by conv => lhs; whnf)) rfl ?_
  refine V (x_assign (by conv => lhs; whnf)) rfl ?_
  refine WL_nil ?_
  refine W_seq ?_
  refine W_region ?_
  refine V (x_move (by conv => lhs; whnf)) rfl ?_
  refine V (x_move (by conv => lhs; whnf)) rfl ?_
  refine SG rfl (by decide) rfl ?_
  refine SG rfl (by decide) rfl ?_
  refine SG rfl (by decide) rfl ?_
  refine V (x_pick_f rfl (by conv => lhs; whnf)) rfl ?_
  refine WL_nil ?_
  refine W_false (rfl) ?_
  refine W_skip ?_
  refine W_seq ?_
  refine W_region ?_
  refine V (x_move (by conv => lhs; whnf)) rfl ?_
  refine WL_nil ?_
  refine W_block ?_
  refine W_seq ?_
  refine W_region ?_
  refine V (x_tassert rfl (ta114 _)) rfl ?_
  refine V (x_extract rfl rfl) rfl ?_
  refine V (x_extract rfl rfl) rfl ?_
  refine WL_nil ?_
  refine W_false (rfl) ?_
  refine W_seq ?_
  refine W_region ?_
  refine V (x_tassert rfl (ta116 _)) rfl ?_
  refine V (x_extract rfl rfl) rfl ?_
  refine V (x_extract rfl rfl) rfl ?_
  refine WL_nil ?_
  refine W_false (rfl) ?_
  refine W_seq ?_
  refine W_region ?_
  refine V (x_assign (by conv => lhs; whnf)) rfl ?_
  refine WL_nil ?_
  refine W_seq ?_
  refine W_region ?_
  refine V (x_assign (by conv => lhs; whnf)) rfl ?_
  refine WL_nil ?_
  refine W_ret ?_
  repeat (with_reducible (first | refine rt ?_ | refine rb ?_))
  exact bodyE_1 rfl rfl ⟨rfl, rfl⟩
end Go.Proofs.YtcdhbfhijkdfoaaDoor
