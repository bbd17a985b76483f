/-
  Rows written between quotes: spec.Row where its bits are -1; what such texts are read as.
-/
import Derived.Test.YtcdhbfhijkdfoaaDoorTf
namespace Go.Proofs.YtcdhbfhijkdfoaaDoor
open Go.EC Go.RowKit
theorem fdiv_m1 (n : Nat) : Int.fdiv (-1) (2 ^ n) = -1 := by
  rw [Int.fdiv_eq_ediv_of_nonneg _ (Int.le_of_lt (Int.pow_pos (by decide)))]
  have h : (0 : Int) < 2 ^ n := Int.pow_pos (by decide)
  exact Int.ediv_eq_neg_one_of_neg_of_le (by decide) (by omega)
theorem x_shr_m1 {P : Program} {e : Env} {w : World} {d : Option Nat} {ty : TypeId} {pos : String} {af : Array Edge} {g : Option (Nat × Bool)} {t t' : TypeId} {x y : Operand} {k k' : IntKind} {b : Int} (hx : ev e x = .int k (-1)) (hy : ev e y = .int k' b) (h0 : ¬ b < 0) :
    (execOp (ev e) ⟨d, .binOp .shr t x y t', ty, pos, af, g⟩).run P w = .ok (.value (.int k (-1))) w := by
  rw [x_shr hx hy h0, fdiv_m1]
/-- Pieces with delimiters between them. -/
def joinB (cm : Bytes) : List Bytes → Bytes
  | [] => []
  | x :: xs => x ++ (xs.map (cm ++ ·)).flatten
theorem joinB_snoc (cm : Bytes) (l : List Bytes) (x : Bytes) : joinB cm (l ++ [x]) = joinB cm l ++ ((if l = [] then [] else cm) ++ x) := by
  cases l with
  | nil => simp [joinB]
  | cons y l => simp [joinB]
theorem joinB_app_len (cm : Bytes) (l m : List Bytes) : (joinB cm l).length ≤ (joinB cm (l ++ m)).length := by
  cases l with
  | nil => simp [joinB]
  | cons y l => simp [joinB]
def rowQ (cm : Bytes) (fs : List Bytes) : Bytes := joinB cm (fs.map quotedB)
theorem rowQ_take (cm : Bytes) (fs : List Bytes) (i : Nat) : (rowQ cm (fs.take i)).length ≤ (rowQ cm fs).length := by
  unfold rowQ
  have h := joinB_app_len cm ((fs.take i).map quotedB) ((fs.drop i).map quotedB)
  rw [← List.map_append, List.take_append_drop] at h
  exact h
theorem rem30 (i : Nat) : IntKind.u64.wrap ((i : Int).tmod 30) = ((i % 30 : Nat) : Int) := by
  have h : (i : Int).tmod 30 = ((i % 30 : Nat) : Int) := by
    rw [Int.tmod_eq_emod_of_nonneg (by omega)]; omega
  rw [h]
  unfold IntKind.wrap
  simp [IntKind.bits, IntKind.signed]
  omega
theorem Row_q (u : Value) (fs : List Bytes) (cm ct : Bytes) (w : World) (hu : RdRow w u fs) (hN : fs.length ≤ 2147487744) (hf : ∀ f ∈ fs, f.length ≤ 2147483648) (hB : (rowQ cm fs).length ≤ 4611686018427387904) :
    Ret Tryd.prog 22 #[u, strV cm, strV ct, .int .i64 (-1)] w fun v w' => v = strV (rowQ cm fs) ∧ Only (fun _ => False) w w' := by
  refine ret_of_W Tryd.func22 rfl (Nat.le_of_ble_eq_true rfl) ?_
  obtain ⟨A, c, hv⟩ : ∃ A c, u = .slice A fs.length c := by obtain ⟨A, c, h, _⟩ := hu; exact ⟨A, c, h⟩
  conv => arg 3; whnf
  refine W_seq ?_
  refine W_region ?_
  refine V (x_assign (by conv => lhs; whnf)) rfl ?_
  refine WL_nil ?_
  refine W_seq ?_
  refine W_region ?_
  refine V (x_assign (by conv => lhs; whnf)) rfl ?_
  refine WL_nil ?_
  refine W_seq ?_
  refine W_seq ?_
  refine W_region ?_
  refine V (x_assign (by conv => lhs; whnf)) rfl ?_
  refine WL_nil ?_
  refine W_block ?_
  refine W_loop (fun K e w' => ∃ i : Nat, i ≤ fs.length ∧ K = fs.length - i ∧ e 0 = u ∧ e 1 = strV cm ∧ e 3 = .int .i64 (-1) ∧ e 9 = strV (rowQ cm (fs.take i)) ∧ e 10 = .int .i64 (i : Int) ∧ Only (fun _ => False) w w') (k0 := fs.length) ⟨0, Nat.zero_le _, by omega, rfl, rfl, rfl, rfl, rfl, Only.refl _ _⟩ ?_
  rintro K e w1 ⟨i, hi, rfl, e0, e1, e3, e9, e10, hO⟩
  by_cases hlt : i < fs.length
  · obtain ⟨g, o, c', hu', hcell⟩ := (hu.new hO).at_ hlt
    have hfl : (fs[i]).length ≤ 2147483648 := hf _ (List.getElem_mem _)
    generalize hfb : fs[i] = f at hcell hfl
    have htake : fs.take (i + 1) = fs.take i ++ [f] := by rw [List.take_succ_eq_append_getElem hlt, hfb]
    have hsn : rowQ cm (fs.take (i + 1)) = rowQ cm (fs.take i) ++ ((if i = 0 then [] else cm) ++ quotedB f) := by
      unfold rowQ
      rw [htake, List.map_append, List.map_singleton, joinB_snoc]
      by_cases h0 : i = 0
      · subst h0; simp
      · have hne : (fs.take i).map quotedB ≠ [] := by
          intro hh
          have h1 := congrArg List.length hh
          rw [List.length_map, List.length_take, List.length_nil] at h1
          omega
        rw [if_neg hne, if_neg h0]
    have hlen := rowQ_take cm fs (i + 1)
    rw [hsn, List.length_append, List.length_append] at hlen
    have eE : e = upd (upd (upd (upd (upd e 0 (.slice (some ⟨g, o, none⟩) fs.length c')) 1 (strV cm)) 3 (.int .i64 (-1))) 9 (strV (rowQ cm (fs.take i)))) 10 (.int .i64 (i : Int)) := by simp only [upd_self (e0.trans hu'), upd_self e1, upd_self e3, upd_self e9, upd_self e10]
    rw [eE]
    by_cases h0 : i = 0
    · rw [if_pos h0] at hsn hlen
      refine W_seq ?_
      refine W_seq ?_
      refine W_region ?_
      refine V (x_move (by conv => lhs; whnf)) rfl ?_
      refine V (x_move (by conv => lhs; whnf)) rfl ?_
      refine V (x_len_slice Tryd.underlying30 rfl) rfl ?_
      refine V (x_bin rfl rfl (bt (decide_eq_true (by omega)))) rfl ?_
      refine WL_nil ?_
      refine W_true (rfl) ?_
      refine W_skip ?_
      refine W_seq ?_
      refine W_block ?_
      refine W_seq ?_
      refine W_seq ?_
      refine W_region ?_
      refine V (x_move (by conv => lhs; whnf)) rfl ?_
      refine V (x_bin rfl rfl (bf (decide_eq_false (by omega)))) rfl ?_
      refine WL_nil ?_
      refine W_false (rfl) ?_
      refine W_skip ?_
      refine W_seq ?_
      refine W_region ?_
      refine V (x_move (by conv => lhs; whnf)) rfl ?_
      refine V (x_move (by conv => lhs; whnf)) rfl ?_
      refine V (x_bin rfl rfl rfl) rfl ?_
      refine V (x_convi Tryd.underlying3 Tryd.underlying61 rfl) rfl ?_
      refine V (x_shr_m1 rfl rfl (by rw [rem30]; omega)) rfl ?_
      refine V (x_bin rfl rfl rfl) rfl ?_
      refine V (x_bin rfl rfl (bt rfl)) rfl ?_
      refine V (x_move (by conv => lhs; whnf)) rfl ?_
      refine SG rfl (by decide) rfl ?_
      refine SG rfl (by decide) rfl ?_
      refine SG rfl (by decide) rfl ?_
      refine SG rfl (by decide) rfl ?_
      refine SU rfl rfl ?_
      refine SU rfl rfl ?_
      refine SU rfl rfl ?_
      refine SU rfl rfl ?_
      refine SU rfl rfl ?_
      refine SG rfl (by decide) rfl ?_
      refine V (x_pick_t rfl (by conv => lhs; whnf)) rfl ?_
      refine V (x_move (by conv => lhs; whnf)) rfl ?_
      refine SG rfl (by decide) rfl ?_
      refine SG rfl (by decide) rfl ?_
      refine SG rfl (by decide) rfl ?_
      refine SG rfl (by decide) rfl ?_
      refine SG rfl (by decide) rfl ?_
      refine SG rfl (by decide) rfl ?_
      refine SG rfl (by decide) rfl ?_
      refine SG rfl (by decide) rfl ?_
      refine V (x_pick_t rfl (by conv => lhs; whnf)) rfl ?_
      refine WL_nil ?_
      refine W_true (rfl) ?_
      refine W_region ?_
      refine V (x_move (by conv => lhs; whnf)) rfl ?_
      refine V (x_move (by conv => lhs; whnf)) rfl ?_
      refine V (x_move (by conv => lhs; whnf)) rfl ?_
      refine V (x_index (i := i) Tryd.underlying30 sz9 rfl rfl rfl (by omega)) rfl ?_
      refine V (x_load ld9 rfl hcell) rfl ?_
      refine C (x_call1 cf30 (by conv => lhs; whnf)) rfl ?_
      refine (Quoted_ok f _ hfl).mono fun v w2 h2 => ?_
      obtain ⟨rfl, ho2⟩ := h2
      refine V (x_sv_add rfl rfl (by omega)) rfl ?_
      refine V (x_assign (by conv => lhs; whnf)) rfl ?_
      refine WL_nil ?_
      refine W_region ?_
      refine V (x_move (by conv => lhs; whnf)) rfl ?_
      refine V (x_bin rfl rfl (ib_addn (m := i + 1) (by omega) (by omega))) rfl ?_
      refine V (x_assign (by conv => lhs; whnf)) rfl ?_
      refine WL_nil ?_
      repeat (first | with_reducible refine xt ?_ | with_reducible refine xb ?_ | with_reducible refine nt ?_ | with_reducible refine nb ?_ | with_reducible refine xn rfl ?_)
      exact ⟨fs.length - (i + 1), by omega, i + 1, by omega, rfl, hu'.symm, rfl, rfl, by rw [hsn]; rfl, rfl, hO.trans ho2⟩
    · rw [if_neg h0] at hsn hlen
      refine W_seq ?_
      refine W_seq ?_
      refine W_region ?_
      refine V (x_move (by conv => lhs; whnf)) rfl ?_
      refine V (x_move (by conv => lhs; whnf)) rfl ?_
      refine V (x_len_slice Tryd.underlying30 rfl) rfl ?_
      refine V (x_bin rfl rfl (bt (decide_eq_true (by omega)))) rfl ?_
      refine WL_nil ?_
      refine W_true (rfl) ?_
      refine W_skip ?_
      refine W_seq ?_
      refine W_block ?_
      refine W_seq ?_
      refine W_seq ?_
      refine W_region ?_
      refine V (x_move (by conv => lhs; whnf)) rfl ?_
      refine V (x_bin rfl rfl (bt (decide_eq_true (by omega)))) rfl ?_
      refine WL_nil ?_
      refine W_true (rfl) ?_
      refine W_region ?_
      refine V (x_move (by conv => lhs; whnf)) rfl ?_
      refine V (x_move (by conv => lhs; whnf)) rfl ?_
      refine V (x_sv_add rfl rfl (by omega)) rfl ?_
      refine V (x_assign (by conv => lhs; whnf)) rfl ?_
      refine WL_nil ?_
      refine W_seq ?_
      refine W_region ?_
      refine V (x_move (by conv => lhs; whnf)) rfl ?_
      refine V (x_move (by conv => lhs; whnf)) rfl ?_
      refine V (x_bin rfl rfl rfl) rfl ?_
      refine V (x_convi Tryd.underlying3 Tryd.underlying61 rfl) rfl ?_
      refine V (x_shr_m1 rfl rfl (by rw [rem30]; omega)) rfl ?_
      refine V (x_bin rfl rfl rfl) rfl ?_
      refine V (x_bin rfl rfl (bt rfl)) rfl ?_
      refine V (x_move (by conv => lhs; whnf)) rfl ?_
      refine SG rfl (by decide) rfl ?_
      refine SG rfl (by decide) rfl ?_
      refine SG rfl (by decide) rfl ?_
      refine SG rfl (by decide) rfl ?_
      refine SU rfl rfl ?_
      refine SU rfl rfl ?_
      refine SU rfl rfl ?_
      refine SU rfl rfl ?_
      refine SU rfl rfl ?_
      refine SG rfl (by decide) rfl ?_
      refine V (x_pick_t rfl (by conv => lhs; whnf)) rfl ?_
      refine V (x_move (by conv => lhs; whnf)) rfl ?_
      refine SG rfl (by decide) rfl ?_
      refine SG rfl (by decide) rfl ?_
      refine SG rfl (by decide) rfl ?_
      refine SG rfl (by decide) rfl ?_
      refine SG rfl (by decide) rfl ?_
      refine SG rfl (by decide) rfl ?_
      refine SG rfl (by decide) rfl ?_
      refine SG rfl (by decide) rfl ?_
      refine V (x_pick_t rfl (by conv => lhs; whnf)) rfl ?_
      refine WL_nil ?_
      refine W_true (rfl) ?_
      refine W_region ?_
      refine V (x_move (by conv => lhs; whnf)) rfl ?_
      refine V (x_move (by conv => lhs; whnf)) rfl ?_
      refine V (x_move (by conv => lhs; whnf)) rfl ?_
      refine V (x_index (i := i) Tryd.underlying30 sz9 rfl rfl rfl (by omega)) rfl ?_
      refine V (x_load ld9 rfl hcell) rfl ?_
      refine C (x_call1 cf30 (by conv => lhs; whnf)) rfl ?_
      refine (Quoted_ok f _ hfl).mono fun v w2 h2 => ?_
      obtain ⟨rfl, ho2⟩ := h2
      refine V (x_sv_add rfl rfl (by rw [List.length_append]; omega)) rfl ?_
      refine V (x_assign (by conv => lhs; whnf)) rfl ?_
      refine WL_nil ?_
      refine W_region ?_
      refine V (x_move (by conv => lhs; whnf)) rfl ?_
      refine V (x_bin rfl rfl (ib_addn (m := i + 1) (by omega) (by omega))) rfl ?_
      refine V (x_assign (by conv => lhs; whnf)) rfl ?_
      refine WL_nil ?_
      repeat (first | with_reducible refine xt ?_ | with_reducible refine xb ?_ | with_reducible refine nt ?_ | with_reducible refine nb ?_ | with_reducible refine xn rfl ?_)
      exact ⟨fs.length - (i + 1), by omega, i + 1, by omega, rfl, hu'.symm, rfl, rfl, by rw [hsn, ← List.append_assoc]; rfl, rfl, hO.trans ho2⟩
  · have hif : fs.take i = fs := List.take_of_length_le (by omega)
    rw [hif] at e9
    have eE : e = upd (upd (upd e 0 (.slice A fs.length c)) 9 (strV (rowQ cm fs))) 10 (.int .i64 (i : Int)) := by simp only [upd_self (e0.trans hv), upd_self e9, upd_self e10]
    rw [eE]
    refine W_seq ?_
    refine W_seq ?_
    refine W_region ?_
    refine V (x_move (by conv => lhs; whnf)) rfl ?_
    refine V (x_move (by conv => lhs; whnf)) rfl ?_
    refine V (x_len_slice Tryd.underlying30 rfl) rfl ?_
    refine V (x_bin rfl rfl (bf (decide_eq_false (by omega)))) rfl ?_
    refine WL_nil ?_
    refine W_false (rfl) ?_
    refine W_exit ?_
    repeat (first | with_reducible refine xt ?_ | with_reducible refine xb ?_ | with_reducible refine nt ?_ | with_reducible refine nb ?_ | with_reducible refine xn rfl ?_)
    refine W_seq ?_
    refine W_region ?_
    refine V (x_move (by conv => lhs; whnf)) rfl ?_
    refine V (x_assign (by conv => lhs; whnf)) rfl ?_
    refine WL_nil ?_
    refine W_ret ?_
    repeat (with_reducible (first | refine rt ?_ | refine rb ?_))
    exact bodyE_1 rfl rfl ⟨rfl, hO⟩

/-! What they are read as. -/
section
variable {cm : Bytes} {lz : Bool} {fs : List Bytes} {rest s : Bytes}
theorem fields_dbl {acc : List Bytes} : ∀ (f cur : Bytes), Fields cm lz (some (cur ++ f)) s acc fs rest → Fields cm lz (some cur) (dblB f ++ s) acc fs rest
  | [], cur, h => by simpa [dblB] using h
  | b :: f, cur, h => by
    have h1 : dblB (b :: f) = (if b = 34 then [34, 34] else [b]) ++ dblB f := rfl
    rw [h1]
    have ih := fields_dbl (acc := acc) f (cur ++ [b]) (by rw [List.append_assoc]; exact h)
    by_cases hb : b = 34
    · rw [if_pos hb]
      subst hb
      exact Fields.dbl ih
    · rw [if_neg hb]
      exact Fields.more hb ih
theorem fields_q {v : Bytes} (hv : Eol v) : ∀ (gs : List Bytes) (f : Bytes) (acc : List Bytes), Fields cm lz none (rowQ cm (f :: gs) ++ v) acc (acc ++ f :: gs) v.tail
  | [], f, acc => by
    have h : rowQ cm [f] ++ v = 34 :: (dblB f ++ 34 :: v) := by simp [rowQ, joinB, quotedB]
    rw [h]
    exact Fields.opened (fields_dbl f [] (Fields.closeEnd hv))
  | g :: gs, f, acc => by
    have h : rowQ cm (f :: g :: gs) ++ v = 34 :: (dblB f ++ 34 :: (cm ++ (rowQ cm (g :: gs) ++ v))) := by simp [rowQ, joinB, quotedB]
    rw [h]
    have ih := fields_q hv gs g (acc ++ [f])
    rw [List.append_assoc] at ih
    exact Fields.opened (fields_dbl f [] (Fields.close ih))
theorem rowQ_head (f : Bytes) (gs : List Bytes) : (rowQ cm (f :: gs)).head? = some 34 := by simp [rowQ, joinB, quotedB]
/-- A table, each row behind the other, with their line ends. -/
def tabQ (cm : Bytes) (tbl : List (List Bytes)) : Bytes := (tbl.map fun fs => rowQ cm fs ++ [10]).flatten
theorem tabQ_snoc (cm : Bytes) (tbl : List (List Bytes)) (fs : List Bytes) : tabQ cm (tbl ++ [fs]) = tabQ cm tbl ++ (rowQ cm fs ++ [10]) := by simp [tabQ]
theorem tab_q {ct : Int} {tl : List (List Bytes)} (ht : Tab cm lz ct s tl) : ∀ (tbl : List (List Bytes)), (∀ fs ∈ tbl, fs ≠ []) → (13 : UInt8) ∉ tabQ cm tbl ++ s → Tab cm lz ct (tabQ cm tbl ++ s) (tbl ++ tl)
  | [], _, _ => by simpa [tabQ] using ht
  | fs :: tbl, hne, h13 => by
    have he : tabQ cm (fs :: tbl) ++ s = rowQ cm fs ++ 10 :: (tabQ cm tbl ++ s) := by simp [tabQ]
    obtain ⟨f, gs, rfl⟩ := List.exists_cons_of_ne_nil (hne fs (by simp))
    rw [he] at h13 ⊢
    have hh : (rowQ cm (f :: gs) ++ 10 :: (tabQ cm tbl ++ s)).head? = some 34 := by
      rw [List.head?_append, rowQ_head]; rfl
    refine Tab.cons ?_ ?_ h13 (fun _ => .inl hh) (by simpa using fields_q (lz := lz) (.inr ⟨tabQ cm tbl ++ s, rfl⟩) gs f []) (tab_q ht tbl (fun fs hfs => hne fs (by simp [hfs])) fun hm => h13 (List.mem_append.2 (.inr (List.mem_cons_of_mem _ hm))))
    · intro h0; rw [h0] at hh; simp at hh
    · rw [hh]; decide
end
theorem no13_dbl {f : Bytes} (h : (13 : UInt8) ∉ f) : (13 : UInt8) ∉ dblB f := by
  unfold dblB
  simp only [List.mem_flatMap, not_exists, not_and]
  intro b hb
  split
  · decide
  · intro hh
    rw [List.mem_singleton] at hh
    exact h (by rw [hh]; exact hb)
theorem no13_quoted {f : Bytes} (h : (13 : UInt8) ∉ f) : (13 : UInt8) ∉ quotedB f := by
  unfold quotedB
  simp only [List.mem_cons, List.mem_append, not_or]
  exact ⟨by decide, no13_dbl h, by decide, by simp⟩
theorem no13_join {cm : Bytes} (hc : (13 : UInt8) ∉ cm) {l : List Bytes} (h : ∀ x ∈ l, (13 : UInt8) ∉ x) : (13 : UInt8) ∉ joinB cm l := by
  cases l with
  | nil => simp [joinB]
  | cons x l =>
    unfold joinB
    simp only [List.mem_append, List.mem_flatten, List.mem_map, not_or, not_exists, not_and]
    refine ⟨h x (by simp), ?_⟩
    rintro _ ⟨y, hy, rfl⟩
    simp only [List.mem_append, not_or]
    exact ⟨hc, h y (by simp [hy])⟩
theorem no13_rowQ {cm : Bytes} (hc : (13 : UInt8) ∉ cm) {fs : List Bytes} (h : ∀ f ∈ fs, (13 : UInt8) ∉ f) : (13 : UInt8) ∉ rowQ cm fs := by
  unfold rowQ
  refine no13_join hc fun x hx => ?_
  rw [List.mem_map] at hx
  obtain ⟨f, hf, rfl⟩ := hx
  exact no13_quoted (h f hf)
theorem no13_tabQ {cm : Bytes} (hc : (13 : UInt8) ∉ cm) {tbl : List (List Bytes)} (h : ∀ fs ∈ tbl, ∀ f ∈ fs, (13 : UInt8) ∉ f) : (13 : UInt8) ∉ tabQ cm tbl := by
  unfold tabQ
  simp only [List.mem_flatten, List.mem_map, not_exists, not_and]
  rintro _ ⟨fs, hfs, rfl⟩
  simp only [List.mem_append, not_or]
  exact ⟨no13_rowQ hc (h fs hfs), by decide⟩
end Go.Proofs.YtcdhbfhijkdfoaaDoor
